/-
  slices.Delete of one span.
-/
import Derived.Test.YbulkdaieS6
import Derived.Lib.SliceRun
import Derived.Deep.RegionLaw
namespace Go.Proofs.Ybulkdaie.Scr
open Go.RowKit
set_option linter.unusedVariables false
set_option linter.unusedSimpArgs false

def spc (s : Sp) : List Value := [.int .u64 (s.e : Int), .int .u64 (s.lo : Int), .int .u64 (s.hi : Int)]
def spCells (L : List Sp) : List Value := L.flatMap spc
theorem spCells_len : ∀ L : List Sp, (spCells L).length = L.length * 3
  | [] => rfl
  | s :: L => by
    have := spCells_len L
    simp [spCells, spc] at this ⊢
    omega
theorem spCells_append (A B : List Sp) : spCells (A ++ B) = spCells A ++ spCells B := by simp [spCells]
theorem spCells_cons (s : Sp) (B : List Sp) : spCells (s :: B) = spc s ++ spCells B := by simp [spCells]
theorem spCells_one (L : List Sp) : ∀ u ∈ spCells L, u.oneCell' = true := by
  intro u hu
  obtain ⟨s, _, hs⟩ := List.mem_flatMap.1 hu
  simp [spc] at hs
  rcases hs with rfl | rfl | rfl <;> rfl
theorem spc_one (s : Sp) : ∀ u ∈ spc s, u.oneCell' = true := by
  intro u hu
  simp [spc] at hu
  rcases hu with rfl | rfl | rfl <;> rfl
theorem spCells_get (L : List Sp) (j : Nat) (s : Sp) (h : L[j]? = some s) : (spCells L)[j * 3]? = some (.int .u64 (s.e : Int)) ∧ (spCells L)[j * 3 + 1]? = some (.int .u64 (s.lo : Int)) ∧ (spCells L)[j * 3 + 2]? = some (.int .u64 (s.hi : Int)) := by
  obtain ⟨hj, rfl⟩ := List.getElem?_eq_some_iff.1 h
  have e : spCells L = spCells (L.take j) ++ (spc L[j] ++ spCells (L.drop (j + 1))) := by
    rw [← spCells_cons, ← spCells_append, ← List.drop_eq_getElem_cons hj, List.take_append_drop]
  have hl : (spCells (L.take j)).length = j * 3 := by rw [spCells_len, List.length_take, Nat.min_eq_left (by omega)]
  rw [e]
  refine ⟨?_, ?_, ?_⟩
  · rw [List.getElem?_append_right (by omega), hl]; simp [spc]
  · rw [List.getElem?_append_right (by omega), hl]; simp [spc]
  · rw [List.getElem?_append_right (by omega), hl]; simp [spc]

theorem RowAt.setCells {g : Nat} {t : TypeId} : ∀ (vs : List Value) (o : Nat) (w : World) (L : List Value), RowAt w g t L → o + vs.length ≤ L.length → RowAt (w.setCells g o vs) g t (L.take o ++ (vs ++ L.drop (o + vs.length)))
  | [], o, w, L, h, hl => by simpa [World.setCells] using h
  | v :: r, o, w, L, h, hl => by
    have h1 := RowAt.setCells r (o + 1) (w.setCell ⟨g, o, none⟩ v) (L.set o v) (h.setCell o v) (by simp at hl ⊢; omega)
    rw [World.setCells]
    simp at hl
    have e : (L.set o v).take (o + 1) ++ (r ++ (L.set o v).drop (o + 1 + r.length)) = L.take o ++ ((v :: r) ++ L.drop (o + (v :: r).length)) := by
      obtain ⟨A, x, B, hL, hA⟩ : ∃ A x B, L = A ++ x :: B ∧ A.length = o := ⟨L.take o, L[o], L.drop (o + 1), by rw [← List.drop_eq_getElem_cons, List.take_append_drop], by rw [List.length_take]; omega⟩
      subst hA
      subst hL
      have e1 : (A ++ x :: B).set A.length v = (A ++ [v]) ++ B := by simp
      have hav : (A ++ [v]).length = A.length + 1 := by simp
      have d1 : ((A ++ [v]) ++ B).drop (A.length + 1 + r.length) = B.drop r.length := by
        rw [← List.drop_drop, List.drop_left' hav]
      have d2 : (A ++ x :: B).drop (A.length + (v :: r).length) = B.drop r.length := by
        rw [← List.drop_drop, List.drop_left' rfl]
        simp
      rw [e1, List.take_left' hav, List.take_left' rfl, d1, d2]
      simp
    rw [e] at h1
    exact h1
theorem grown_setCells {g : Nat} : ∀ (vs : List Value) (o : Nat) (w0 w : World), w0.grownBy w (some g) → w0.grownBy (w.setCells g o vs) (some g)
  | [], _, _, _, h => h
  | v :: r, o, w0, w, h => grown_setCells r (o + 1) w0 _ (grown_setCell h o v)

/-- The whole row behind a slice of the call's own. -/
theorem owns_row {w : World} {base : Nat} {e : TypeId} {size g n c : Nat} {xs : List Value} (h : w.ownsRow base e size (.slice (some ⟨g, 0, none⟩) n c) n xs) :
    ∃ C : List Value, RowAt w g e C ∧ C.length = c * size ∧ C.take (n * size) = xs ∧ n ≤ c ∧ c ≤ maxLen ∧ base ≤ g := by
  rcases h.2 with ⟨h1, _⟩ | ⟨g', cap, cur, h1, h2, h3, h4, h5, h6, h7⟩
  · cases h1
  · simp only [Value.slice.injEq, Option.some.injEq, Addr.mk.injEq] at h1
    obtain ⟨⟨rfl, _⟩, _, rfl⟩ := h1
    exact ⟨cur.toList, by unfold RowAt; simpa using h3, by simpa using h6, h7, h4, h5, h2⟩
theorem row_owns {w : World} {base : Nat} {e : TypeId} {size g n c : Nat} {xs C : List Value} (h : RowAt w g e C) (hl : C.length = c * size) (ht : C.take (n * size) = xs) (hn : n ≤ c) (hc : c ≤ maxLen) (hb : base ≤ g) :
    w.ownsRow base e size (.slice (some ⟨g, 0, none⟩) n c) n xs := by
  refine ⟨?_, .inr ⟨g, c, C.toArray, rfl, hb, h, hn, hc, by simpa using hl, by simpa using ht⟩⟩
  rw [← ht, List.length_take, hl, Nat.min_eq_left (Nat.mul_le_mul_right _ hn)]

theorem owns_spAt {w : World} {base g n c : Nat} {L : List Sp} (h : w.ownsRow base 67 3 (.slice (some ⟨g, 0, none⟩) n c) n (spCells L)) : SpAt w g L := by
  intro j s hs
  obtain ⟨h1, h2, h3⟩ := spCells_get L j s hs
  have hc := h.cells (g := g) rfl
  refine ⟨?_, ?_, ?_⟩
  · have := hc _ _ h1; rwa [WideShapes.add_plain, Nat.zero_add] at this
  · have := hc _ _ h2; rwa [WideShapes.add_plain, Nat.zero_add] at this
  · have := hc _ _ h3; rwa [WideShapes.add_plain, Nat.zero_add] at this
theorem owns_len {w : World} {base : Nat} {v : Value} {n : Nat} {L : List Sp} (h : w.ownsRow base 67 3 v n (spCells L)) : L.length = n := by
  have := h.1
  rw [spCells_len] at this
  omega

/-- 'clear' of one element. -/
theorem run_clear_one {P : Program} (w : World) (t e ty : TypeId) (z : Value) (ht : P.underlying t = some (.slice e)) (hv : ∀ w, (zeroValue e).run P w = .ok z w) (h1 : ∀ u ∈ z.cells.toList, u.oneCell' = true) (b o c : Nat)
    (hc : ∀ j, j < z.cells.size → (w.cell? ⟨b, o + j, none⟩).isSome = true) (hf : ∀ j, j < z.cells.size → w.frozen? ⟨b, o + j, none⟩ = false) :
    (Builtin.clear_ #[t] ty #[.slice (some ⟨b, o, none⟩) 1 c]).run P w = .ok (.tuple #[]) (w.setCells b o z.cells.toList) := by
  have hzc : (Builtin.zeroCells z.cells 1).toList = z.cells.toList := by
    simp [Builtin.zeroCells]
    apply List.ext_getElem
    · simp
    · intro i h1 h2
      simp at h1 h2
      simp [Nat.mod_eq_of_lt h2]
      rw [getElem!_pos z.cells i h2]
  have hst := run_storeCells_cells (P := P) b o z.cells.toList 0 w (by simpa using hc) (by simpa using hf) h1
  simp only [Nat.add_zero] at hst
  simp [Builtin.clear_, run_underlying ht, hv, hzc, hst]

end Go.Proofs.Ybulkdaie.Scr
