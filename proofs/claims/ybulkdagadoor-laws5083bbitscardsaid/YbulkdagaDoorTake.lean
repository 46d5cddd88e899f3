/-
  The walks of ended and of take.
-/
import Derived.Test.YbulkdagaDoorRefill
namespace Go.Proofs.YbulkdagaDoor
open Go.RowKit
set_option linter.unusedVariables false
set_option linter.unusedSimpArgs false

set_option maxHeartbeats 1000000 in
set_option maxRecDepth 100000 in
theorem ended_any (zB sB bits nb : Nat) (inn : Value) (te : TypeId) (pe E0 U : Value) (b : Bool) (Z : List Value) (w : World) (hr : RowAt w zB 46 (zCells sB inn bits nb (.iface te pe) Z))
    (h0 : w.cell? ⟨0, 0, none⟩ = some E0) (h1 : w.cell? ⟨1, 0, none⟩ = some U) (hq : ∀ k, (binOp .eql 24 (.iface te pe) E0).run Ybad.prog (w.drewN k) = .ok (.bool b) (w.drewN k)) :
    Calls Ybad.prog 7 #[.pointer (some ⟨zB, 0, none⟩)] w fun e w' => e = .returned (if b then U else .iface te pe) ∧ ∃ k, w' = w.drewN k := by
  have hc := hr.cell
  unfold zCells at hc
  cases b
  · go_enter Ybad.func7, Ybad.ntmps7
    go_wp2_with fail
    go_quiet (fail)
    go_wp2_with fail
    go_ret
    exact ⟨rfl, _, rfl⟩
  · go_enter Ybad.func7, Ybad.ntmps7
    go_wp2_with fail
    go_quiet (fail)
    go_wp2_with fail
    go_ret
    exact ⟨rfl, _, rfl⟩

/-- What take leaves. -/
def TakePost (w0 w' : World) (zB sB gd n X : Nat) (ca : Option Addr) (cl cc : Nat) (E U : Value) (b : Bool) (Z : List Value) (pos nn : Nat) (e : Ending) : Prop :=
  (8 * n < pos + nn ∧ e = .returned (.tuple #[.int .u32 0, if b then U else E]) ∧ ∃ bits' nb' ended', ZI w0 w' zB sB gd n X ca cl cc E Z pos bits' nb' ended') ∨
  (pos + nn ≤ 8 * n ∧ e = .returned (.tuple #[.int .u32 ((X / 2 ^ pos % 2 ^ nn : Nat) : Int), .nilIface]) ∧ ∃ bits' nb' ended', ZI w0 w' zB sB gd n X ca cl cc E Z (pos + nn) bits' nb' ended')

section
variable {w0 w w' w2 : World} {zB sB gd n X : Nat} {ca : Option Addr} {cl cc : Nat} {E : Value} {Z : List Value} {pos bits nb : Nat} {ended : Bool}
theorem ZI.drewN (h : ZI w0 w zB sB gd n X ca cl cc E Z pos bits nb ended) (m : Nat) : ZI w0 (w.drewN m) zB sB gd n X ca cl cc E Z pos bits nb ended := by
  obtain ⟨k, pt, p, inn, h1, h2, h3⟩ := h
  exact ⟨k, pt, p, inn, h1, h2.drewN m, h3⟩
theorem ZI.below (h : ZI w0 w zB sB gd n X ca cl cc E Z pos bits nb ended) : Below w0.heap.size w0 w := by
  obtain ⟨k, pt, p, inn, h1, h2, h3⟩ := h
  exact h2.below
theorem ZI.taken (h : ZI w0 w zB sB gd n X ca cl cc E Z pos bits nb ended) (nn : Nat) (hn : nn ≤ nb) :
    ZI w0 ((w.setCell ⟨zB, 2, none⟩ (.int .u64 ((bits / 2 ^ nn : Nat) : Int))).setCell ⟨zB, 3, none⟩ (.int .u64 ((nb - nn : Nat) : Int))) zB sB gd n X ca cl cc E Z (pos + nn) (bits / 2 ^ nn) (nb - nn) ended := by
  obtain ⟨k, pt, p, inn, h1, h2, h3, h4, h5⟩ := h
  have hg := grown_setCell (grown_setCell (World.grownBy.refl w (some zB)) 2 (.int .u64 ((bits / 2 ^ nn : Nat) : Int))) 3 (.int .u64 ((nb - nn : Nat) : Int))
  have hpn := h3.pn
  have hnb := h3.nb64
  exact ⟨k, pt, p, inn, (h1.setCell 2 _).setCell 3 _, h2.zg hg, ⟨h3.ptn, h3.ppt, by omega, by omega, Nat.lt_of_le_of_lt (Nat.div_le_self _ _) h3.b64, Num.take_fit h3.fit hn, h3.inn⟩, h4, h5⟩
theorem ZI.room (h : ZI w0 w zB sB gd n X ca cl cc E Z pos bits nb ended) : pos + nb ≤ 8 * n ∧ (ended = true → pos + nb = 8 * n) ∧ nb < 64 ∧ bits < 2 ^ 64 ∧ Num.Fit X pos bits nb := by
  obtain ⟨k, pt, p, inn, h1, h2, h3, h4, h5⟩ := h
  have := h3.ptn
  have := h3.ppt
  have := h3.pn
  exact ⟨by omega, fun he => by have := h5 he; omega, h3.nb64, h3.b64, h3.fit⟩
theorem ZI.row (h : ZI w0 w zB sB gd n X ca cl cc E Z pos bits nb ended) : ∃ inn, RowAt w zB 46 (zCells sB inn bits nb (if ended then E else .nilIface) Z) := by
  obtain ⟨k, pt, p, inn, h1, _⟩ := h
  exact ⟨inn, h1⟩
end

set_option maxHeartbeats 1000000 in
set_option maxRecDepth 100000 in
theorem take_any (w0 : World) (zB sB gd n X : Nat) (ca : Option Addr) (cl cc : Nat) (te : TypeId) (pe E0 U : Value) (b : Bool) (Z : List Value) (pos bits nb nn : Nat) (ended : Bool) (w : World)
    (hz : ZI w0 w zB sB gd n X ca cl cc (.iface te pe) Z pos bits nb ended) (hnn : nn ≤ 32) (hg0 : w0.cell? ⟨0, 0, none⟩ = some E0) (hg1 : w0.cell? ⟨1, 0, none⟩ = some U)
    (HQ : ∀ wx, Below w0.heap.size w0 wx → (binOp .eql 24 (.iface te pe) E0).run Ybad.prog wx = .ok (.bool b) wx) :
    Calls Ybad.prog 5 #[.pointer (some ⟨zB, 0, none⟩), .int .u64 (nn : Int)] w fun e w' => TakePost w0 w' zB sB gd n X ca cl cc (.iface te pe) U b Z pos nn e := by
  have HHQ := hide HQ
  have HG0 := hide hg0
  have HG1 := hide hg1
  clear HQ hg0 hg1
  have HZ := hide hz
  obtain ⟨inn, hrow⟩ := hz.row
  have hrm := hz.room
  clear hz
  have hc := hrow.cell
  unfold zCells at hc
  clear hrow
  go_enter Ybad.func5, Ybad.ntmps5
  go_upto_if 12 with fail
  go_cut [] (fun w1 => ∃ bits' nb' ended', ZI w0 w1 zB sB gd n X ca cl cc (.iface te pe) Z pos bits' nb' ended' ∧ nn ≤ nb')
  case first =>
    by_cases hlt : (nb : Int) < (nn : Int)
    · go_wp2_with fail
      refine (refill_any w0 zB sB gd n X ca cl cc te pe Z pos bits nb ended _ HZ.out).mono ?_
      rintro e w2 ⟨rfl, b2, n2, e2, hz2, hle, hor⟩
      obtain ⟨inn2, hrow2⟩ := hz2.row
      have hrm2 := hz2.room
      have hc2 := hrow2.cell
      unfold zCells at hc2
      by_cases hlt2 : (n2 : Int) < (nn : Int)
      · obtain rfl : e2 = true := by
          rcases hor with h | h
          · omega
          · exact h
        have hbel := hz2.below
        have c0 : w2.cell? ⟨0, 0, none⟩ = some E0 := (hbel.cell (p := ⟨0, 0, none⟩) (World.block_lt_of_cell? _ _ HG0.out)).trans HG0.out
        have c1 : w2.cell? ⟨1, 0, none⟩ = some U := (hbel.cell (p := ⟨1, 0, none⟩) (World.block_lt_of_cell? _ _ HG1.out)).trans HG1.out
        have hen := ended_any zB sB b2 n2 inn2 te pe E0 U b Z w2 hrow2 c0 c1 (fun k => HHQ.out _ (below_drewN hbel k))
        obtain ⟨R, hR⟩ : ∃ R, R = (if b then U else .iface te pe) := ⟨_, rfl⟩
        rw [← hR] at hen
        have HEN := hide hen
        have HR := hide hR
        have HRM := hide (hrm2.2.1 rfl)
        clear hrow2 c0 c1 hbel hen hR hrm2
        go_wp2_with (go_at_call 7; refine HEN.out.mono ?_; rintro e w3 ⟨rfl, k3, rfl⟩)
        go_ret2
        left
        refine ⟨by have := HRM.out; omega, ?_, b2, n2, true, hz2.drewN k3⟩
        rw [← HR.out]; rfl
      · go_wp2_with fail
        go_meet
        case rel => exact ⟨b2, n2, e2, hz2, by omega⟩
    · have hlt' : ¬ (nb : Int) < (nn : Int) := hlt
      go_wp2_with fail
      go_meet
      case rel => exact ⟨bits, nb, ended, HZ.out, by omega⟩
  case rest =>
    obtain ⟨b2, n2, e2, hz2, hle⟩ := hcut
    obtain ⟨inn2, hrow2⟩ := hz2.row
    have hrm2 := hz2.room
    clear hc
    have hc := hrow2.cell
    have hf := hrow2.frozen
    unfold zCells at hc
    clear hrow2 hrm
    have HRM := hide hrm2
    have hn264 : (n2 : Int) < 64 := by have := hrm2.2.2.1; omega
    have hle2 : (nn : Int) ≤ (n2 : Int) := by omega
    clear hrm2
    go_wp2_with fail
    have h64 := HRM.out.2.2.2.1
    have e1 := and_mask b2 nn h64 (by omega)
    have hpl : b2 % 2 ^ nn < 4294967296 := Nat.lt_of_lt_of_le (Nat.mod_lt _ (Nat.two_pow_pos nn)) (Nat.le_trans (Nat.pow_le_pow_right (by omega) hnn) (by decide))
    have e2 : ((b2 % 2 ^ nn : Nat) : Int) % 4294967296 = ((b2 % 2 ^ nn : Nat) : Int) := by generalize b2 % 2 ^ nn = y at *; omega
    have e3 : (b2 : Int) / 2 ^ nn = ((b2 / 2 ^ nn : Nat) : Int) := by simp
    have e4 : (n2 : Int) - (nn : Int) = ((n2 - nn : Nat) : Int) := by omega
    rw [e1, e2, e3, e4]
    go_ret2
    right
    refine ⟨by have := HRM.out.1; omega, ?_, _, _, _, hz2.taken nn hle⟩
    rw [← Num.take_val HRM.out.2.2.2.2 hle]
    rfl

end Go.Proofs.YbulkdagaDoor
