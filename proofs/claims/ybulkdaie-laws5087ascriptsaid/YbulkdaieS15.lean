/-
  runList's functions on a set.
-/
import Derived.Test.YbulkdaieS14
namespace Go.Proofs.Ybulkdaie.Scr
open Go.RowKit
set_option linter.unusedVariables false
set_option linter.unusedSimpArgs false

/-- The place ahead of R in A ++ R. -/
def plB (A R : List Sp) : Nat := if R = [] then (if A = [] then 0 else 1) else 0
def plI (A R : List Sp) : Nat := if R = [] then 0 else A.length
def placeV (A R : List Sp) : Value := .agg #[.int .i64 (plB A R : Int), .int .i64 (plI A R : Int)]

/-- The span at the head of R. -/
def headV (sv : Value) (A R : List Sp) : Value :=
  match R, sv with
  | [], _ => .pointer none
  | _ :: _, .slice (some a) _ _ => .pointer (some ⟨a.block, A.length * 3, none⟩)
  | _, _ => .pointer none

theorem PS.nilForm {w : World} {base b : Nat} {bv sv : Value} (h : PS w base b bv sv []) : ∃ x cb, bv = .slice x 0 cb ∧ sv = .slice none 0 0 := by
  rcases h.own with ⟨_, h1, h2⟩ | ⟨h1, _⟩
  · rcases h2.2 with ⟨h3, _⟩ | ⟨g, cap, cur, h3, _⟩
    · exact ⟨_, _, h3, h1⟩
    · exact ⟨_, _, h3, h1⟩
  · exact absurd rfl h1

theorem end_PS (base b : Nat) (bv sv : Value) (L : List Sp) (w : World) (h : PS w base b bv sv L) :
    Calls Yba.prog 19 #[.pointer (some ⟨b, 0, none⟩)] w fun r w' => r = .returned (placeV L []) ∧ Below w.heap.size w w' := by
  by_cases hL : L = []
  · subst hL
    obtain ⟨x, cb, rfl, rfl⟩ := h.nilForm
    exact end_any b 0 cb x w (h.row.cell 0)
  · obtain ⟨hh, cb, g, c, rfl, rfl, hB, hS, _⟩ := h.some hL
    have := end_any b 1 cb _ w (h.row.cell 0)
    simpa [placeV, plB, plI, hL] using this

theorem cut_uniq {A R : List Sp} {e c i : Nat} (h : Cut (A ++ R) e c i) (hA : ∀ s ∈ A, s.under e c) (hR : ∀ s ∈ R, ¬ s.under e c) : i = A.length := by
  rcases Nat.lt_trichotomy i A.length with h1 | h1 | h1
  · exfalso
    have h2 : (A ++ R)[i]? = some A[i] := by rw [List.getElem?_append_left h1, List.getElem?_eq_getElem h1]
    exact h.ov i A[i] (Nat.le_refl _) h2 (hA _ (List.getElem_mem h1))
  · exact h1
  · exfalso
    have h2 := h.le
    rw [List.length_append] at h2
    have h3 : A.length - A.length < R.length := by omega
    have h4 : (A ++ R)[A.length]? = some R[A.length - A.length] := by rw [List.getElem?_append_right (Nat.le_refl _), List.getElem?_eq_getElem h3]
    exact hR _ (List.getElem_mem h3) (h.un A.length _ h1 h4)

theorem find_PS (base b : Nat) (bv sv : Value) (L : List Sp) (e c : Nat) (w : World) (h : PS w base b bv sv L) (hG : Good L) :
    Calls Yba.prog 20 #[.pointer (some ⟨b, 0, none⟩), pos e c] w fun r w' => (∃ A R, L = A ++ R ∧ (∀ s ∈ A, s.under e c) ∧ (∀ s ∈ R, ¬ s.under e c) ∧ r = .returned (.tuple #[placeV A R, headV sv A R])) ∧ Below w.heap.size w w' := by
  by_cases hL : L = []
  · subst hL
    obtain ⟨x, cb, rfl, rfl⟩ := h.nilForm
    refine (find_nil b cb e c x w (h.row.cell 0)).mono ?_
    rintro r w' ⟨rfl, hb⟩
    exact ⟨⟨[], [], rfl, by simp, by simp, rfl⟩, hb⟩
  · obtain ⟨hh, cb, g, c', rfl, rfl, hB, hS, hnc, _⟩ := h.some hL
    obtain ⟨m, hm⟩ : ∃ m, L.length = m + 1 := ⟨L.length - 1, by have := List.length_pos_iff.2 hL; omega⟩
    refine (find_one b hh g L.length m cb c' L e c w (h.row.cell 0) (owns_cell0 hB) (owns_spAt hS) hG rfl hm hnc).mono ?_
    rintro r w' ⟨⟨i, hcut, hr⟩, hb⟩
    refine ⟨⟨L.take i, L.drop i, (List.take_append_drop _ _).symm, ?_, ?_, ?_⟩, hb⟩
    · intro s hs
      obtain ⟨k, hk, rfl⟩ := List.mem_iff_getElem.1 hs
      simp at hk
      exact hcut.un k _ (by omega) (by rw [List.getElem_take]; exact List.getElem?_eq_getElem (by omega))
    · intro s hs
      obtain ⟨k, hk, rfl⟩ := List.mem_iff_getElem.1 hs
      simp at hk
      exact hcut.ov (i + k) _ (by omega) (by rw [List.getElem_drop]; exact List.getElem?_eq_getElem (by omega))
    · rcases hr with ⟨h1, rfl⟩ | ⟨h1, rfl⟩
      · have hd : L.drop i ≠ [] := by intro e; have := congrArg List.length e; simp at this; omega
        have hlt : (L.take i).length = i := by rw [List.length_take]; omega
        have e1 : placeV (L.take i) (L.drop i) = .agg #[.int .i64 0, .int .i64 (i : Int)] := by
          unfold placeV plB plI
          rw [if_neg hd, if_neg hd, hlt]
          rfl
        have e2 : headV (.slice (some ⟨g, 0, none⟩) L.length c') (L.take i) (L.drop i) = .pointer (some ⟨g, i * 3, none⟩) := by
          unfold headV
          cases hx : L.drop i with
          | nil => exact absurd hx hd
          | cons a r => simp [hlt]
        rw [e1, e2]
      · have hd : L.drop i = [] := List.drop_eq_nil_of_le (by omega)
        have ht : L.take i = L := List.take_of_length_le (by omega)
        rw [hd, ht]
        have e1 : placeV L [] = .agg #[.int .i64 1, .int .i64 0] := by
          unfold placeV plB plI
          rw [if_pos rfl, if_neg hL, if_pos rfl]
          rfl
        rw [e1]
        rfl

theorem insert_PS (base b : Nat) (bv sv : Value) (A R : List Sp) (s : Sp) (w : World) (h : PS w base b bv sv (A ++ R)) (h18 : (A ++ R).length ≤ 18) (hbase : base ≤ w.heap.size) :
    Calls Yba.prog 18 #[.pointer (some ⟨b, 0, none⟩), placeV A R, spn s.e s.lo s.hi] w fun r w' => r = .returned (.tuple #[]) ∧ ∃ bv' sv', PS w' base b bv' sv' (A ++ s :: R) ∧ Chg (Foot b bv sv) w w' ∧ ∀ k, Foot b bv' sv' k → Foot b bv sv k ∨ w.heap.size ≤ k := by
  by_cases hR : R = []
  · subst hR
    by_cases hA : A = []
    · subst hA
      exact insert_nil base b bv sv s w h hbase
    · have e1 : placeV A [] = .agg #[.int .i64 1, .int .i64 0] := by
        unfold placeV plB plI
        rw [if_pos rfl, if_neg hA, if_pos rfl]
        rfl
      rw [e1]
      rw [List.append_nil] at h h18
      exact insert_end base b bv sv A s w h hA h18 hbase
  · have e1 : placeV A R = .agg #[.int .i64 0, .int .i64 (A.length : Int)] := by
      unfold placeV plB plI
      rw [if_neg hR, if_neg hR]
      rfl
    rw [e1]
    have hl := List.length_pos_iff.2 hR
    have := insert_mid base b bv sv (A ++ R) s A.length w h (by simp [hR]) (by simp; omega) h18 hbase
    rw [List.take_left' rfl, List.drop_left' rfl] at this
    exact this

theorem remove_PS (base b : Nat) (bv sv : Value) (A R : List Sp) (s : Sp) (w : World) (h : PS w base b bv sv (A ++ s :: R)) (h18 : (A ++ s :: R).length ≤ 18) :
    Calls Yba.prog 22 #[.pointer (some ⟨b, 0, none⟩), placeV A (s :: R)] w fun r w' => r = .returned (.tuple #[]) ∧ ∃ bv' sv', PS w' base b bv' sv' (A ++ R) ∧ Chg (Foot b bv sv) w w' ∧ ∀ k, Foot b bv' sv' k → Foot b bv sv k := by
  have e1 : placeV A (s :: R) = .agg #[.int .i64 0, .int .i64 (A.length : Int)] := by
    unfold placeV plB plI
    rw [if_neg (by simp), if_neg (by simp)]
    rfl
  rw [e1]
  have := remove_any base b bv sv (A ++ s :: R) A.length (A.length + R.length) w h (by simp) (by simp; omega) h18
  have e2 : (A ++ s :: R).eraseIdx A.length = A ++ R := by
    rw [List.eraseIdx_append_of_length_le (Nat.le_refl _), Nat.sub_self]
    rfl
  rw [e2] at this
  exact this
end Go.Proofs.Ybulkdaie.Scr
