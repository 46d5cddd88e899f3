/-
  The walk of the source's next.
-/
import Derived.Test.YbulkdagaDoorLoad
namespace Go.Proofs.YbulkdagaDoor
open Go.RowKit
set_option linter.unusedVariables false
set_option linter.unusedSimpArgs false

theorem dd (w : World) (a b : Nat) : (w.drewN a).drewN b = w.drewN (a + b) := by simp [World.drewN, Nat.add_assoc]

/-- The cells of the source. -/
def srcCells (gd n : Nat) (ca : Option Addr) (cl cc : Nat) (k pt : Nat) (err : Value) (ends : Int) : List Value :=
  [.slice (some ⟨gd, 0, none⟩) n n, .slice ca cl cc, .int .i64 (k : Int), .int .i64 (pt : Int), err, .int .i64 ends]

theorem srcCells_k (gd n : Nat) (ca : Option Addr) (cl cc k pt : Nat) (err : Value) (ends : Int) (k' pt' : Nat) : ((srcCells gd n ca cl cc k pt err ends).set 2 (.int .i64 (k' : Int))).set 3 (.int .i64 (pt' : Int)) = srcCells gd n ca cl cc k' pt' err ends := rfl
theorem srcCells_e (gd n : Nat) (ca : Option Addr) (cl cc k pt : Nat) (err : Value) (ends e' : Int) : (srcCells gd n ca cl cc k pt err ends).set 5 (.int .i64 e') = srcCells gd n ca cl cc k pt err e' := rfl

set_option maxHeartbeats 1000000 in
set_option maxRecDepth 100000 in
theorem next_end (sB gd n : Nat) (ca : Option Addr) (cl cc k : Nat) (err : Value) (ends : Int) (w : World) (hr : RowAt w sB 28 (srcCells gd n ca cl cc k n err ends)) (hn : n ≤ 4096) (he0 : 0 ≤ ends) (he1 : ends ≤ 1000) :
    Calls Ybad.prog 25 #[.pointer (some ⟨sB, 0, none⟩)] w fun e w' => e = .returned (.tuple #[.slice none 0 0, err]) ∧ RowAt w' sB 28 (srcCells gd n ca cl cc k n err (ends + 1)) ∧ w.grownBy w' (some sB) := by
  have hc := hr.cell
  have hf := hr.frozen
  unfold srcCells at hc
  have fin : ∀ a b, RowAt (((w.drewN a).setCell ⟨sB, 5, none⟩ (.int .i64 (ends + 1))).drewN b) sB 28 (srcCells gd n ca cl cc k n err (ends + 1)) ∧ w.grownBy (((w.drewN a).setCell ⟨sB, 5, none⟩ (.int .i64 (ends + 1))).drewN b) (some sB) := by
    intro a b
    have h1 : RowAt (w.drewN a) sB 28 (srcCells gd n ca cl cc k n err ends) := hr
    have h2 := h1.setCell 5 (.int .i64 (ends + 1))
    rw [srcCells_e] at h2
    have h3 := grown_setCell (World.grownBy.refl (w.drewN a) (some sB)) 5 (.int .i64 (ends + 1))
    exact ⟨h2, h3.os, h3.tape, h3.output, h3.size, h3.block⟩
  have FIN := hide fin
  clear fin hr
  go_enter Ybad.func25, Ybad.ntmps25
  go_wp2_with fail
  go_quiet (fail)
  go_wp2_with fail
  go_quiet (fail)
  go_wp2_with fail
  go_ret2
  exact ⟨rfl, FIN.out _ _⟩

set_option maxHeartbeats 1000000 in
set_option maxRecDepth 100000 in
theorem next_more (sB gd n : Nat) (ca : Option Addr) (cl cc k pt : Nat) (err : Value) (ends : Int) (w : World) (hr : RowAt w sB 28 (srcCells gd n ca cl cc k pt err ends)) (hn : n ≤ 4096) (hp : pt < n) (hk : k ≤ pt)
    (hcl : cl ≤ 4096) (hcut : k < cl → ∃ cb co q, ca = some ⟨cb, co, none⟩ ∧ w.cell? ⟨cb, co + k, none⟩ = some (.int .u8 q) ∧ 0 ≤ q ∧ q ≤ 255) :
    Calls Ybad.prog 25 #[.pointer (some ⟨sB, 0, none⟩)] w fun e w' => ∃ pt', pt < pt' ∧ pt' ≤ n ∧ e = .returned (.tuple #[.slice (some ⟨gd, pt, none⟩) (pt' - pt) (n - pt), .nilIface]) ∧ RowAt w' sB 28 (srcCells gd n ca cl cc (k + 1) pt' err ends) ∧ w.grownBy w' (some sB) := by
  have hc := hr.cell
  have hf := hr.frozen
  unfold srcCells at hc
  have HCUT := hide hcut
  clear hcut
  have HR := hide hr
  clear hr
  go_enter Ybad.func25, Ybad.ntmps25
  go_wp2_with fail
  go_quiet (fail)
  go_wp2_with fail
  go_quiet (fail)
  go_upto_if 37 with fail
  go_cut [4] (fun v w2 => ∃ sz m : Nat, v = .int .i64 (sz : Int) ∧ 1 ≤ sz ∧ sz ≤ 16 ∧ w2 = w.drewN m)
  case first =>
    by_cases hkc : k < cl
    · obtain ⟨cb, co, q, rfl, hq, hq0, hq1⟩ := HCUT.out hkc
      have hki : (k : Int) < (cl : Int) := by omega
      go_wp2_with fail
      go_quiet (fail)
      go_wp2_with fail
      go_meet
      case rel => exact ⟨(q % 16 + 1).toNat, _, by rw [Int.toNat_of_nonneg (by omega)], by omega, by omega, by rw [dd, dd]⟩
    · have hki : ¬ (k : Int) < (cl : Int) := by omega
      go_wp2_with fail
      go_meet
      case rel => exact ⟨1, _, rfl, by omega, by omega, rfl⟩
  case rest =>
    obtain ⟨sz, m, hsz, hs1, hs2, hwc⟩ := hcut
    rw [hsz, hwc]
    clear hsz hwc
    go_upto_if 70 with fail
    go_cut [5] (fun v w3 => ∃ pt' : Nat, v = .int .i64 (pt' : Int) ∧ pt < pt' ∧ pt' ≤ n ∧ w3 = (w.drewN m).setCell ⟨sB, 2, none⟩ (.int .i64 ((k : Int) + 1)))
    case first =>
      by_cases hen : (n : Int) < (pt : Int) + (sz : Int)
      · go_wp2_with fail
        go_meet
        case rel => exact ⟨n, rfl, by omega, by omega, rfl⟩
      · go_wp2_with fail
        go_meet
        case rel => exact ⟨pt + sz, by go_num, by omega, by omega, rfl⟩
    case rest =>
      obtain ⟨pt', hpt, hp1, hp2, hwc⟩ := hcut
      rw [hpt, hwc]
      clear hpt hwc
      have hne : ¬ n = pt := by omega
      have hp3 : (pt : Int) ≤ (pt' : Int) := by omega
      have hp4 : (pt' : Int) ≤ (n : Int) := by omega
      go_wp2_with fail
      go_quiet (fail)
      go_wp2_with fail
      go_ret2
      refine ⟨pt', hp1, hp2, rfl, ?_, ?_⟩
      · have h1 : RowAt (w.drewN m) sB 28 (srcCells gd n ca cl cc k pt err ends) := HR.out
        have h2 : RowAt (((w.drewN m).setCell ⟨sB, 2, none⟩ (.int .i64 ((k : Int) + 1))).drewN nq) sB 28 _ := h1.setCell 2 (.int .i64 ((k : Int) + 1))
        exact h2.setCell 3 _
      · have h3 : w.grownBy (w.drewN m) (some sB) := ⟨rfl, rfl, rfl, Nat.le_refl _, fun _ _ _ => rfl⟩
        have h4 := grown_setCell h3 2 (.int .i64 ((k : Int) + 1))
        have h5 : w.grownBy (((w.drewN m).setCell ⟨sB, 2, none⟩ (.int .i64 ((k : Int) + 1))).drewN nq) (some sB) := ⟨h4.os, h4.tape, h4.output, h4.size, h4.block⟩
        exact grown_setCell h5 3 _

end Go.Proofs.YbulkdagaDoor
