/-
  The run of marks in memory; the walk of markOf.
-/
import Derived.Test.YbulkdaieKit
import Derived.Test.YbulkdaieBits
import Derived.Test.YbulkdaieOnes
import Derived.Deep.DeepCutAuto
namespace Go.Proofs.Ybulkdaie
open Go.RowKit
set_option linter.unusedVariables false

theorem ret_int {k : IntKind} {a b : Int} (h : a = b) : Ending.returned (.int k a) = .returned (.int k b) := by rw [h]

/-- The first n words of the bits, as cells. -/
def wcells (bs : List Bool) (n : Nat) : List Value := (List.range n).map fun i => Value.int .u64 (wd bs i : Int)

/-- The cells of a run. -/
def runCells (ep : Int) (lo hi : Nat) (f l : Int) (v : Value) : List Value := [.int .u64 ep, .int .u64 (lo : Int), .int .u64 (hi : Int), .int .i64 f, .int .i64 l, v]

/-- Behind which the marks lie: a nil slice while all rise or none does; else the words of the bits, in a row beyond block G. -/
def Words (w : World) (G : Nat) (v : Value) (bs : List Bool) : Prop :=
  ∃ n g cap, v = .slice (some ⟨g, 0, none⟩) n cap ∧ bs.length ≤ 64 * n ∧ n ≤ 64 ∧ w.ownsRow (G + 1) 30 1 v n (wcells bs n)

theorem wcells_length (bs : List Bool) (n : Nat) : (wcells bs n).length = n := by simp [wcells]
theorem wcells_get (bs : List Bool) (n i : Nat) (h : i < n) : (wcells bs n)[i]? = some (.int .u64 (wd bs i : Int)) := by
  simp [wcells, List.getElem?_range h]

set_option maxHeartbeats 400000 in
set_option maxRecDepth 100000 in
theorem markOf_flat (B lo hi k : Nat) (ep f : Int) (w : World) (hr : RowAt w B 70 (runCells ep lo hi f f (.slice none 0 0))) (hk : lo + k < 18446744073709551616) :
    Calls Yba.prog 12 #[.pointer (some ⟨B, 0, none⟩), .int .u64 ((lo : Int) + (k : Int))] w fun e w' => e = .returned (.int .i64 f) ∧ ∃ n, w' = w.drewN n := by
  have hc := hr.cell
  unfold runCells at hc
  have heq := fun (wx : World) => Lib.run_eql_slice_nil (P := Yba.prog) wx 68 30 none 0 0 0 0 Yba.underlying68
  go_enter Yba.func12, Yba.ntmps12
  go_wp2
  go_quiet (fail)
  go_wp2
  go_ret
  exact ⟨rfl, _, rfl⟩

set_option maxHeartbeats 400000 in
set_option maxRecDepth 100000 in
theorem markOf_rise (B lo hi k : Nat) (ep f l : Int) (w : World) (hr : RowAt w B 70 (runCells ep lo hi f l (.slice none 0 0))) (hk : lo + k < 18446744073709551616) (hk2 : k < 65536) (hfl : (f == l) = false) :
    Calls Yba.prog 12 #[.pointer (some ⟨B, 0, none⟩), .int .u64 ((lo : Int) + (k : Int))] w fun e w' => e = .returned (.int .i64 (wrap64 (f + (k : Int)))) ∧ ∃ n, w' = w.drewN n := by
  have hc := hr.cell
  unfold runCells at hc
  have heq := fun (wx : World) => Lib.run_eql_slice_nil (P := Yba.prog) wx 68 30 none 0 0 0 0 Yba.underlying68
  go_enter Yba.func12, Yba.ntmps12
  go_wp2
  go_quiet (fail)
  go_wp2
  go_ret
  exact ⟨ret_int (by rw [show (lo : Int) + (k : Int) - (lo : Int) = (k : Int) by omega]), _, rfl⟩

theorem mask_div : ∀ j, j < 64 → (18446744073709551615 : Int) / 2 ^ (63 - j) = ((2 ^ (j + 1) - 1 : Nat) : Int) := by decide
theorem and_mask (x j : Nat) (hx : x < 18446744073709551616) (hj : j < 64) : bits .and .u64 (x : Int) (18446744073709551615 / 2 ^ (63 - j)) = ((x &&& (2 ^ (j + 1) - 1) : Nat) : Int) := by
  rw [mask_div j hj]
  have h1 : 2 ^ (j + 1) ≤ 2 ^ 64 := Nat.pow_le_pow_right (by omega) (by omega)
  exact u64_and_nat _ _ hx (by omega)

set_option maxHeartbeats 400000 in
set_option maxRecDepth 100000 in
theorem markOf_words (B G lo hi k : Nat) (ep f l : Int) (v : Value) (bs : List Bool) (w : World) (hr : RowAt w B 70 (runCells ep lo hi f l v)) (hw : Words w G v bs) (hk : lo + k < 18446744073709551616) (hkb : k < bs.length) :
    Calls Yba.prog 12 #[.pointer (some ⟨B, 0, none⟩), .int .u64 ((lo : Int) + (k : Int))] w fun e w' => e = .returned (.int .i64 (wrap64 (f + ((bs.take (k + 1)).count true : Int)))) ∧ ∃ n, w' = w.drewN n := by
  obtain ⟨n, g, cap, rfl, hn, hn64, hown⟩ := hw
  have hc := hr.cell
  unfold runCells at hc
  have heq := fun (wx : World) => Lib.run_eql_slice_nil (P := Yba.prog) wx 68 30 (some ⟨g, 0, none⟩) n cap 0 0 Yba.underlying68
  have hcw : ∀ i, i < n → w.cell? ⟨g, i, none⟩ = some (.int .u64 (wd bs i : Int)) := fun i hi => by
    rw [hown.cellAt i (by omega), wcells_get bs n i hi]
  have c1 := hcw (k / 64) (by omega)
  have hkn : k / 64 < n := by omega
  go_enter Yba.func12, Yba.ntmps12
  go_upto_region 1 with fail
  go_cut [5] (fun v w1 => v = .int .u64 (k : Int) ∧ w1 = w)
  case first =>
    go_wp2_with fail
    go_meet
    case rel => exact ⟨by rw [show (lo : Int) + (k : Int) - (lo : Int) = (k : Int) by omega], rfl⟩
  case rest =>
  obtain ⟨rfl, rfl⟩ := hcut
  go_wp2_with fail
  go_quiet (fail)
  go_wp2_with fail
  rw [and_mask _ _ (wd_lt bs _) (by omega)]
  have hlt : (wd bs (k / 64) &&& (2 ^ (k % 64 + 1) - 1)) < 18446744073709551616 := Nat.lt_of_le_of_lt Nat.and_le_left (wd_lt bs _)
  have hpl := Pop.pc_le 64 (wd bs (k / 64) &&& (2 ^ (k % 64 + 1) - 1))
  have HM : Hid (Pop.pc 64 (wd bs (k / 64) &&& (2 ^ (k % 64 + 1) - 1)) + sumTo bs (k / 64) = (bs.take (k + 1)).count true) := mask_eq bs k
  generalize (wd bs (k / 64) &&& (2 ^ (k % 64 + 1) - 1)) = y at *
  refine (ones_any y hlt _).mono ?_
  rintro e w' ⟨rfl, rfl⟩
  generalize Pop.pc 64 y = p0 at *
  have hsl : k / 64 ≤ cap := by
    rcases hown.2 with ⟨h, _⟩ | ⟨_, _, _, h, _, _, h2, _⟩
    · cases h
    · cases h; omega
  clear c1 hown hr heq hlt
  go_wp2_with fail
  have hc3 : wc.cell? ⟨B, 3, none⟩ = some (.int .i64 f) := hc 3
  clear hc hk hn hkb
  generalize (18446744073709551615 : Int) / 2 ^ (63 - k % 64) = mm
  rw [show ((k : Int) / 64) = ((k / 64 : Nat) : Int) by omega]
  generalize k / 64 = K at *
  go_loop [6, 72] (fun s i => ∃ j : Nat, j ≤ K ∧ i = .int .i64 j ∧ s = .int .i64 ((p0 + sumTo bs j : Nat) : Int)) (fun _ i => K - (intOf i).toNat)
  case atStart => exact ⟨0, by omega, rfl, rfl⟩
  case round =>
    obtain ⟨j, hj, rfl, rfl⟩ := hrel
    have hsj := sumTo_le bs j
    by_cases hlt2 : j < K
    · have cj := hcw j (by omega)
      obtain ⟨q, hpj, HS, HC⟩ : ∃ q, q ≤ 64 ∧ Hid (sumTo bs (j + 1) = sumTo bs j + q) ∧ Hid (∀ w, Calls Yba.prog 23 #[.int .u64 (wd bs j : Int)] w fun e w' => e = .returned (.int .i64 (q : Int)) ∧ w' = w) :=
        ⟨Pop.pc 64 (wd bs j), Pop.pc_le 64 (wd bs j), (rfl : _ = _), fun w => ones_any _ (wd_lt bs j) w⟩
      clear hcw
      generalize sumTo bs j = S at *
      generalize wd bs j = x at *
      go_wp2_with (go_at_call 23; refine (HC.out _).mono ?_; rintro e w' ⟨rfl, rfl⟩)
      go_round
      case rel => exact ⟨j + 1, by omega, by go_num, by rw [HS.out]; go_num⟩
      case measure => simp [intOf]; omega
    · obtain rfl : j = K := by omega
      clear hcw
      go_wp2_with fail
      go_ret
      exact ⟨ret_int (by rw [← HM.out]; go_num), _, rfl⟩

end Go.Proofs.Ybulkdaie
