/-
  Small laws and the pure names.
-/
import Derived.Test.YbulkdafmRows
import Derived.WalkKit
import Derived.WalkSpells
import Derived.WalkLawsBesides
import Derived.RegionTactic
import Derived.Deep.QuietTactic
import Derived.BigQuiet
import Derived.BigRegion
import Derived.Deep.RegionWith
import Derived.Deep.LoopGhost
import Derived.Deep.DeepCutAuto
import Derived.Deep.CutBlock
import Derived.Maps.RangeWalk
import Derived.Maps.Ext
import Derived.Maps.AppendAt
import Derived.Room.AppendFits
import Derived.Laws.BytesString
namespace Go.Proofs.Ybulkdafm
open Go.RowKit
set_option linter.unusedVariables false
set_option linter.unusedSimpArgs false

theorem hide {p : Prop} (h : p) : Hid p := h
theorem dd (w : World) (a b : Nat) : (w.drewN a).drewN b = w.drewN (a + b) := by simp [World.drewN, Nat.add_assoc]

/-! ### Names: a key, a mark, the step's number -/
/-- The digits of a number, the least first. -/
def digs : Nat → Nat → List Nat
  | 0, _ => []
  | f + 1, n => if n = 0 then [] else (48 + n % 10) :: digs f (n / 10)
def decs (n : Nat) : List Nat := if n = 0 then [48] else digs 10 n
/-- What digits tell. -/
def told : List Nat → Nat
  | [] => 0
  | d :: r => (d - 48) + 10 * told r

theorem told_digs : ∀ f n, n < 10 ^ f → told (digs f n) = n
  | 0, n, h => by simp at h; simp [digs, told, h]
  | f + 1, n, h => by
    unfold digs
    split
    · rename_i h0; simp [told, h0]
    · have := told_digs f (n / 10) (by rw [Nat.pow_succ] at h; omega)
      simp only [told, this]
      omega
theorem told_decs (n : Nat) (h : n < 10 ^ 10) : told (decs n) = n := by
  unfold decs
  split
  · rename_i h0; simp [told, h0]
  · exact told_digs 10 n h
theorem digs_range : ∀ f n, ∀ d ∈ digs f n, 48 ≤ d ∧ d ≤ 57
  | 0, n, d, h => by simp [digs] at h
  | f + 1, n, d, h => by
    unfold digs at h
    split at h
    · simp at h
    · rcases List.mem_cons.1 h with rfl | h
      · omega
      · exact digs_range f _ d h
theorem decs_range (n : Nat) : ∀ d ∈ decs n, 48 ≤ d ∧ d ≤ 57 := by
  intro d h
  unfold decs at h
  split at h
  · simp at h; omega
  · exact digs_range 10 n d h
theorem digs_length : ∀ f n, (digs f n).length ≤ f
  | 0, n => by simp [digs]
  | f + 1, n => by
    unfold digs
    split
    · simp
    · have := digs_length f (n / 10)
      simp; omega
theorem decs_length (n : Nat) : (decs n).length ≤ 10 ∧ 0 < (decs n).length := by
  unfold decs
  split
  · simp
  · rename_i h
    refine ⟨digs_length 10 n, ?_⟩
    unfold digs
    simp [h]
theorem digs_zero (f : Nat) : digs f 0 = [] := by cases f <;> simp [digs]

/-- The bytes of the name. -/
def nameBytes (s : List UInt8) (i : Nat) : List UInt8 := s ++ (35 :: ((decs i).map UInt8.ofNat).reverse)
def nameOf (s : ByteArray) (i : Nat) : ByteArray := ⟨(nameBytes s.data.toList i).toArray⟩
theorem nameOf_size (s : ByteArray) (i : Nat) : (nameOf s i).size = s.size + 1 + (decs i).length := by
  have : s.data.size = s.size := rfl
  show (nameOf s i).data.size = _
  simp [nameOf, nameBytes]
  omega

theorem split_at_mark {l1 l2 r1 r2 : List UInt8} (h1 : ∀ x ∈ l1, x ≠ 35) (h2 : ∀ x ∈ l2, x ≠ 35) (h : l1 ++ 35 :: r1 = l2 ++ 35 :: r2) : l1 = l2 := by
  induction l1 generalizing l2 with
  | nil =>
    cases l2 with
    | nil => rfl
    | cons b l2 =>
      simp at h
      exact absurd h.1.symm (h2 b (by simp))
  | cons a l1 ih =>
    cases l2 with
    | nil =>
      simp at h
      exact absurd h.1 (h1 a (by simp))
    | cons b l2 =>
      simp at h
      rw [h.1, ih (fun x hx => h1 x (by simp [hx])) (fun x hx => h2 x (by simp [hx])) h.2]
theorem map_ofNat_inj {l1 l2 : List Nat} (h1 : ∀ d ∈ l1, 48 ≤ d ∧ d ≤ 57) (h2 : ∀ d ∈ l2, 48 ≤ d ∧ d ≤ 57) (h : l1.map UInt8.ofNat = l2.map UInt8.ofNat) : l1 = l2 := by
  induction l1 generalizing l2 with
  | nil => cases l2 <;> simp_all
  | cons a l1 ih =>
    cases l2 with
    | nil => simp at h
    | cons b l2 =>
      simp only [List.map_cons, List.cons.injEq] at h
      have ha := h1 a (by simp)
      have hb := h2 b (by simp)
      have e := congrArg UInt8.toNat h.1
      simp at e
      rw [ih (fun x hx => h1 x (by simp [hx])) (fun x hx => h2 x (by simp [hx])) h.2]
      congr 1
      omega
/-- Two steps' names are never alike. -/
theorem name_inj {s s' : List UInt8} {i i' : Nat} (hi : i < 10 ^ 10) (hi' : i' < 10 ^ 10) (h : nameBytes s i = nameBytes s' i') : i = i' := by
  unfold nameBytes at h
  have h := congrArg List.reverse h
  simp only [List.reverse_append, List.reverse_cons, List.reverse_reverse, List.append_assoc, List.singleton_append] at h
  have hm : ∀ n, ∀ x ∈ (decs n).map UInt8.ofNat, x ≠ 35 := by
    intro n x hx
    obtain ⟨d, hd, rfl⟩ := List.mem_map.1 hx
    have := decs_range n d hd
    intro e
    have := congrArg UInt8.toNat e
    simp at this
    omega
  have e := map_ofNat_inj (decs_range i) (decs_range i') (split_at_mark (hm i) (hm i') h)
  rw [← told_decs i hi, ← told_decs i' hi', e]

end Go.Proofs.Ybulkdafm
