/-
  Small contracts ahead of the law's walk.
-/
import Derived.Test.YbulkdagaDoorBuild
import Derived.Laws.IdiomCopy
import Derived.Deep.DeepCutAuto
namespace Go.Proofs.YbulkdagaDoor
open Go.RowKit
set_option linter.unusedVariables false
set_option linter.unusedSimpArgs false

theorem Ybad.size5 : (Ybad.prog.info? 5).map (·.size) = some 1 := by kernel_rfl
theorem info_parts {P : Program} {T : TypeId} {z : Value} {s b : Nat} (h : (P.info? T).map (fun i => (i.zero, i.size, i.bytes)) = some (some z, s, b)) :
    ∃ i, P.info? T = some i ∧ i.zero = some z ∧ i.size = s ∧ i.bytes = b := by
  cases hi : P.info? T with
  | none => simp [hi] at h
  | some i => simp [hi] at h; exact ⟨i, rfl, h.1, h.2.1, h.2.2⟩
theorem info5 : (Ybad.prog.info? 5).map (fun i => (i.zero, i.size, i.bytes)) = some (some (.int .u8 0), 1, 1) := by kernel_rfl

theorem dCells_length (X n : Nat) : (dCells X n).length = n := by simp [dCells]
theorem dCells_one (X n : Nat) : ∀ u ∈ dCells X n, u.oneCell' = true := by
  intro u hu
  simp [dCells] at hu
  obtain ⟨i, _, rfl⟩ := hu
  rfl

theorem copy_any (w1 : World) (g n cap : Nat) (da : Option Addr) (D L : List Value) (hr : RowAt w1 g 5 L) (hL : L.length = n) (hD : D.length = n) (hnone : da = none → n = 0)
    (hc : ∀ x, da = some x → ∀ i u, D[i]? = some u → w1.cell? (x.add i) = some u) (h1 : ∀ u ∈ D, u.oneCell' = true) :
    ∃ w2, (∀ ty, (Builtin.copy_ #[22, 22] ty #[.slice (some ⟨g, 0, none⟩) n n, .slice da n cap]).run Ybad.prog w1 = .ok (.int .i64 (n : Int)) w2) ∧ RowAt w2 g 5 D ∧ w1.grownBy w2 (some g) := by
  cases da with
  | none =>
    obtain rfl := hnone rfl
    refine ⟨w1, fun ty => run_copy_none (P := Ybad.prog) w1 22 22 ty 5 _ _ 0 0 0 cap Ybad.underlying22 Ybad.size5 rfl, ?_, World.grownBy.refl _ _⟩
    rw [List.length_eq_zero_iff.1 hD]
    rw [List.length_eq_zero_iff.1 hL] at hr
    exact hr
  | some x => exact copy_row (P := Ybad.prog) w1 22 5 Ybad.underlying22 Ybad.size5 g n cap x D L hr hL hD (hc x rfl) h1

theorem errNew_any (s : ByteArray) (w : World) : Calls Ybad.prog 4 #[.string s] w fun e w' => e = .returned (.iface 50 (.pointer (some ⟨w.heap.size, 0, none⟩))) ∧ w' = w.alloc (.cells #[.string s] 52) := by
  go_enter Ybad.func4, Ybad.ntmps4
  go_wp2_with fail
  go_ret
  exact ⟨rfl, rfl⟩

theorem comp50 : (Ybad.prog.info? 50).map (·.comparable) = some true := by kernel_rfl
theorem size52 : (Ybad.prog.info? 52).map (·.size) = some 1 := by kernel_rfl
theorem some_of_map {α β : Type} {o : Option α} {f : α → β} {b : β} (h : o.map f = some b) : ∃ x, o = some x ∧ f x = b := by
  cases o with
  | none => simp at h
  | some x => exact ⟨x, rfl, by simpa using h⟩

theorem eql_same (a : Addr) (w : World) : (binOp .eql 24 (.iface 50 (.pointer (some a))) (.iface 50 (.pointer (some a)))).run Ybad.prog w = .ok (.bool true) w := by
  obtain ⟨i, hi, hc⟩ := some_of_map comp50
  obtain ⟨j, hj, hs⟩ := some_of_map size52
  exact run_eql_iface_ptr_same w a Ybad.underlying24 Ybad.underlying50 hi hc hj
theorem eql_other {a b : Addr} {ca cb : Array Value} {ta tb : TypeId} (w : World) (hne : a ≠ b) (ha : w.heap[a.block]? = some (.cells ca ta (0, 0))) (hb : w.heap[b.block]? = some (.cells cb tb (0, 0))) :
    (binOp .eql 24 (.iface 50 (.pointer (some a))) (.iface 50 (.pointer (some b)))).run Ybad.prog w = .ok (.bool false) w := by
  obtain ⟨i, hi, hc⟩ := some_of_map comp50
  obtain ⟨j, hj, hs⟩ := some_of_map size52
  exact run_eql_iface_ptr_other w Ybad.underlying24 Ybad.underlying50 hi hc hj (by omega) hne ha hb
theorem neq_same (a : Addr) (w : World) : (binOp .neq 24 (.iface 50 (.pointer (some a))) (.iface 50 (.pointer (some a)))).run Ybad.prog w = .ok (.bool false) w := by
  obtain ⟨i, hi, hc⟩ := some_of_map comp50
  obtain ⟨j, hj, hs⟩ := some_of_map size52
  simp only [binOp]
  simp [Op.equal, Op.maxDepth, run_equalIn_iface_ptr_same w 9998 a Ybad.underlying24 Ybad.underlying50 hi hc hj]

theorem and1_u8 (a : Nat) (ha : a < 256) : Go.bits .and .u8 (a : Int) 1 = ((a % 2 : Nat) : Int) := by
  have h1 : (BitVec.ofInt 8 (a : Int)).toNat = a := by
    rw [BitVec.ofInt_natCast, BitVec.toNat_ofNat]; exact Nat.mod_eq_of_lt (by omega)
  show IntKind.u8.wrap ((BitVec.ofInt 8 (a : Int) &&& BitVec.ofInt 8 1).toNat : Int) = _
  rw [BitVec.toNat_and, h1, show (BitVec.ofInt 8 1).toNat = 1 from rfl, Nat.and_one_is_mod, IntKind.wrap_u8]
  omega
theorem or_u32 (a b : Nat) (ha : a < 4294967296) (hb : b < 4294967296) : Go.bits .or .u32 (a : Int) (b : Int) = ((a ||| b : Nat) : Int) := by
  have hx : a ||| b < 2 ^ 32 := Nat.or_lt_two_pow (by omega) (by omega)
  have h1 : (BitVec.ofInt 32 (a : Int)).toNat = a := by
    rw [BitVec.ofInt_natCast, BitVec.toNat_ofNat]; exact Nat.mod_eq_of_lt (by omega)
  have h2 : (BitVec.ofInt 32 (b : Int)).toNat = b := by
    rw [BitVec.ofInt_natCast, BitVec.toNat_ofNat]; exact Nat.mod_eq_of_lt (by omega)
  show IntKind.u32.wrap ((BitVec.ofInt 32 (a : Int) ||| BitVec.ofInt 32 (b : Int)).toNat : Int) = _
  rw [BitVec.toNat_or, h1, h2, IntKind.wrap_u32]
  omega

/-- One bit more of what the law wants. -/
theorem or_bit (X pos j by8 W : Nat) (hj : j < 32) (hb8 : by8 < 256) (hbb : by8 / 2 ^ ((pos + j) % 8) % 2 = X / 2 ^ (pos + j) % 2) (hW : W = X / 2 ^ pos % 2 ^ j) (hWl : W < 2 ^ j) :
    Go.bits .or .u32 (W : Int) (Go.bits .and .u8 ((by8 : Int) / 2 ^ ((pos + j) % 8)) 1 % 4294967296 * 2 ^ j % 4294967296) = ((X / 2 ^ pos % 2 ^ (j + 1) : Nat) : Int) := by
  have hd : by8 / 2 ^ ((pos + j) % 8) < 256 := Nat.lt_of_le_of_lt (Nat.div_le_self _ _) hb8
  have hp : 2 ^ j ≤ 2 ^ 31 := Nat.pow_le_pow_right (by omega) (by omega)
  have e0 : (by8 : Int) / 2 ^ ((pos + j) % 8) = ((by8 / 2 ^ ((pos + j) % 8) : Nat) : Int) := by simp
  rw [e0, and1_u8 _ hd, hbb]
  have hB : X / 2 ^ (pos + j) % 2 < 2 := Nat.mod_lt _ (by omega)
  have hs := Num.want_step X pos j
  rw [← hW] at hs
  rw [← hs]
  generalize X / 2 ^ (pos + j) % 2 = B at *
  have e1 : ((B : Nat) : Int) % 4294967296 * 2 ^ j % 4294967296 = ((B * 2 ^ j : Nat) : Int) := by
    have : B * 2 ^ j ≤ 1 * 2 ^ j := Nat.mul_le_mul_right _ (by omega)
    rw [show ((B : Nat) : Int) % 4294967296 = (B : Int) by omega, show ((B : Int) * 2 ^ j) = ((B * 2 ^ j : Nat) : Int) by simp]
    generalize B * 2 ^ j = y at *
    omega
  have h4 : B * 2 ^ j ≤ 1 * 2 ^ j := Nat.mul_le_mul_right _ (by omega)
  rw [e1, or_u32 _ _ (by omega) (by omega), Nat.or_comm, Nat.mul_comm B, ← Nat.two_pow_add_eq_or_of_lt hWl, Nat.add_comm]

end Go.Proofs.YbulkdagaDoor
