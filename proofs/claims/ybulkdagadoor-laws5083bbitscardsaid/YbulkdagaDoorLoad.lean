/-
  The walks of littleEndian.Uint64 and of load.
-/
import Derived.Test.YbulkdagaDoorKit
import Derived.Test.YbulkdagaDoorNum
import Derived.Lib.EndianBits
import Derived.Laws.Bits64b
import Derived.Deep.DeepCutAuto
namespace Go.Proofs.YbulkdagaDoor
open Go.RowKit
set_option linter.unusedVariables false
set_option linter.unusedSimpArgs false

theorem cell_old {w : World} {o : Obj} {a : Addr} {v : Value} (h : w.cell? a = some v) : (w.alloc o).cell? a = some v :=
  (World.cell?_alloc_lt w o a (World.block_lt_of_cell? w a h)).trans h
theorem hide {p : Prop} (h : p) : Hid p := h
theorem ret_int {k : IntKind} {a b : Int} (h : a = b) : Ending.returned (.int k a) = .returned (.int k b) := by rw [h]

set_option maxHeartbeats 1000000 in
set_option maxRecDepth 100000 in
theorem uint64_any (g o n c : Nat) (b : Nat → Nat) (w : World) (hn : 8 ≤ n) (hb : ∀ j, j < 8 → b j < 256) (hc : ∀ j, j < 8 → w.cell? ⟨g, o + j, none⟩ = some (.int .u8 (b j : Int))) :
    Calls Ybad.prog 9 #[.agg #[], .slice (some ⟨g, o, none⟩) n c] w fun e w' =>
      e = .returned (.int .u64 ((b 0 + b 1 * 256 + b 2 * 65536 + b 3 * 16777216 + b 4 * 4294967296 + b 5 * 1099511627776 + b 6 * 281474976710656 + b 7 * 72057594037927936 : Nat) : Int)) ∧ ∃ k, w' = (w.alloc (.cells #[] 59)).drewN k := by
  have d0 : (w.alloc (.cells #[] 59)).cell? ⟨g, o, none⟩ = some (.int .u8 (b 0 : Int)) := cell_old (hc 0 (by omega))
  have d1 : (w.alloc (.cells #[] 59)).cell? ⟨g, o + 1, none⟩ = some (.int .u8 (b 1 : Int)) := cell_old (hc 1 (by omega))
  have d2 : (w.alloc (.cells #[] 59)).cell? ⟨g, o + 2, none⟩ = some (.int .u8 (b 2 : Int)) := cell_old (hc 2 (by omega))
  have d3 : (w.alloc (.cells #[] 59)).cell? ⟨g, o + 3, none⟩ = some (.int .u8 (b 3 : Int)) := cell_old (hc 3 (by omega))
  have d4 : (w.alloc (.cells #[] 59)).cell? ⟨g, o + 4, none⟩ = some (.int .u8 (b 4 : Int)) := cell_old (hc 4 (by omega))
  have d5 : (w.alloc (.cells #[] 59)).cell? ⟨g, o + 5, none⟩ = some (.int .u8 (b 5 : Int)) := cell_old (hc 5 (by omega))
  have d6 : (w.alloc (.cells #[] 59)).cell? ⟨g, o + 6, none⟩ = some (.int .u8 (b 6 : Int)) := cell_old (hc 6 (by omega))
  have d7 : (w.alloc (.cells #[] 59)).cell? ⟨g, o + 7, none⟩ = some (.int .u8 (b 7 : Int)) := cell_old (hc 7 (by omega))
  have h0 := hb 0 (by omega); have h1 := hb 1 (by omega); have h2 := hb 2 (by omega); have h3 := hb 3 (by omega)
  have h4 := hb 4 (by omega); have h5 := hb 5 (by omega); have h6 := hb 6 (by omega); have h7 := hb 7 (by omega)
  clear hb hc
  generalize b 0 = b0 at *
  generalize b 1 = b1 at *
  generalize b 2 = b2 at *
  generalize b 3 = b3 at *
  generalize b 4 = b4 at *
  generalize b 5 = b5 at *
  generalize b 6 = b6 at *
  generalize b 7 = b7 at *
  have q0 : 0 < n := by omega
  have q1 : (1 : Int) < (n : Int) := by omega
  have q2 : (2 : Int) < (n : Int) := by omega
  have q3 : (3 : Int) < (n : Int) := by omega
  have q4 : (4 : Int) < (n : Int) := by omega
  have q5 : (5 : Int) < (n : Int) := by omega
  have q6 : (6 : Int) < (n : Int) := by omega
  have q7 : (7 : Int) < (n : Int) := by omega
  go_enter Ybad.func9, Ybad.ntmps9
  go_wp2
  go_quiet (fail)
  go_wp2
  go_ret
  refine ⟨?_, _, rfl⟩
  simp (disch := omega) only [u64_wrap_id, u64_or8, u64_or16, u64_or24, u64_or32, u64_or40, u64_or48, u64_or56]
  refine ret_int ?_
  omega

theorem or_shift (bits U nb : Nat) (hb : bits < 2 ^ nb) (hnb : nb < 64) : Go.bits .or .u64 (bits : Int) (IntKind.u64.wrap ((U : Int) * 2 ^ nb)) = (((bits + U * 2 ^ nb) % 2 ^ 64 : Nat) : Int) := by
  have e1 : IntKind.u64.wrap ((U : Int) * 2 ^ nb) = ((U * 2 ^ nb % 2 ^ 64 : Nat) : Int) := by
    rw [IntKind.wrap_u64, show ((U : Int) * 2 ^ nb) = ((U * 2 ^ nb : Nat) : Int) by simp]
    generalize U * 2 ^ nb = y
    omega
  have e2 : U * 2 ^ nb % 2 ^ 64 = 2 ^ nb * (U % 2 ^ (64 - nb)) := by
    rw [show 64 = nb + (64 - nb) by omega, Nat.pow_add, show nb + (64 - nb) - nb = 64 - nb by omega, Nat.mul_comm U, Nat.mul_mod_mul_left]
  have h3 : U % 2 ^ (64 - nb) < 2 ^ (64 - nb) := Nat.mod_lt _ (Nat.two_pow_pos _)
  have h4 : bits + 2 ^ nb * (U % 2 ^ (64 - nb)) < 2 ^ 64 := by
    have h5 : 2 ^ nb * (U % 2 ^ (64 - nb) + 1) ≤ 2 ^ nb * 2 ^ (64 - nb) := Nat.mul_le_mul_left _ h3
    rw [← Nat.pow_add, show nb + (64 - nb) = 64 by omega, Nat.mul_add, Nat.mul_one] at h5
    omega
  have hb64 : bits < 2 ^ 64 := by omega
  rw [e1, bits_or_u64_nat _ _ (by simpa using hb64) (by have := Nat.mod_lt (U * 2 ^ nb) (Nat.two_pow_pos 64); simpa using this)]
  congr 1
  rw [Nat.add_mod, Nat.mod_eq_of_lt hb64, e2, Nat.mod_eq_of_lt h4, Nat.or_comm, ← Nat.two_pow_add_eq_or_of_lt hb]
  omega
theorem or56 (nb : Nat) (h : nb < 64) : Go.bits .or .u64 (nb : Int) 56 = ((56 + nb % 8 : Nat) : Int) := by
  have k : ∀ x, x < 64 → x ||| 56 = 56 + x % 8 := by decide
  have := bits_or_u64_nat nb 56 (by omega) (by omega)
  rw [show ((56 : Nat) : Int) = 56 from rfl] at this
  rw [this, k nb h]

set_option maxHeartbeats 1000000 in
set_option maxRecDepth 100000 in
theorem load_any (g o n c bits nb U : Nat) (b : Nat → Nat) (w : World) (hn : 8 ≤ n) (hnc : n ≤ c) (hb : ∀ j, j < 8 → b j < 256) (hc : ∀ j, j < 8 → w.cell? ⟨g, o + j, none⟩ = some (.int .u8 (b j : Int)))
    (hU : b 0 + b 1 * 256 + b 2 * 65536 + b 3 * 16777216 + b 4 * 4294967296 + b 5 * 1099511627776 + b 6 * 281474976710656 + b 7 * 72057594037927936 = U) (hnb : nb < 64) (hbits : bits < 2 ^ nb) :
    Calls Ybad.prog 8 #[.slice (some ⟨g, o, none⟩) n c, .int .i64 0, .int .u64 (bits : Int), .int .u64 (nb : Int)] w fun e w' =>
      e = .returned (.tuple #[.int .i64 (((63 - nb) / 8 : Nat) : Int), .int .u64 (((bits + U * 2 ^ nb) % 2 ^ 64 : Nat) : Int), .int .u64 ((56 + nb % 8 : Nat) : Int)]) ∧ Below w.heap.size w w' := by
  have hcall := fun (wx : World) (hx : ∀ j, j < 8 → wx.cell? ⟨g, o + j, none⟩ = some (.int .u8 (b j : Int))) => uint64_any g o n c b wx hn hb hx
  have hcd := hcall w.drew hc
  rw [hU] at hcd
  have HCD := hide hcd
  have hUl : U < 18446744073709551616 := by
    have h0 := hb 0 (by omega); have h1 := hb 1 (by omega); have h2 := hb 2 (by omega); have h3 := hb 3 (by omega)
    have h4 := hb 4 (by omega); have h5 := hb 5 (by omega); have h6 := hb 6 (by omega); have h7 := hb 7 (by omega)
    omega
  clear hcall hcd hU hb hc
  have e63 : Go.bits .and .u64 (nb : Int) 63 = (nb : Int) := by
    have := bits_and_u64_nat nb 63 (by omega) (by omega)
    rw [show ((63 : Nat) : Int) = 63 from rfl] at this
    rw [this, show nb &&& 63 = nb % 64 from Nat.and_two_pow_sub_one_eq_mod nb 6]
    omega
  have hc0 : ¬ c = 0 := by omega
  have HB := hide hbits
  clear hbits
  go_enter Ybad.func8, Ybad.ntmps8
  go_wp2_with fail
  go_cut [2] (fun v w1 => v = .int .u64 (((bits + U * 2 ^ nb) % 2 ^ 64 : Nat) : Int) ∧ Below w.heap.size w w1)
  case first =>
    go_region_with (go_at_call 9; refine HCD.out.mono ?_; rintro e w2 ⟨rfl, k2, rfl⟩)
    all_goals
      go_wp2_with fail
      go_meet
      case rel =>
        refine ⟨?_, ?_⟩
        · rw [or_shift bits U nb HB.out hnb]
        · exact below_drewN ((Below.refl _ _).alloc (Nat.le_refl _) _) _
  case rest =>
    obtain ⟨hv, hb2⟩ := hcut
    rw [hv]
    clear hv
    go_wp2_with fail
    rw [or56 nb hnb, show ((63 : Int) - (nb : Int)) / 8 = (((63 - nb) / 8 : Nat) : Int) by omega]
    go_ret3
    exact ⟨rfl, hb2⟩

end Go.Proofs.YbulkdagaDoor
