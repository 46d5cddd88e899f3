/-
  PosSet.Add of one position.
-/
import Derived.Test.YbulkdaieS20
namespace Go.Proofs.Ybulkdaie.Scr
open Go.RowKit
set_option linter.unusedVariables false
set_option linter.unusedSimpArgs false

/-- What Add answers and leaves. -/
def AddRes (base b : Nat) (bv sv : Value) (L : List Sp) (e c : Nat) (w : World) (r : Ending) (w' : World) : Prop :=
  (memL L e c ∧ r = .returned (.bool false) ∧ Below w.heap.size w w') ∨
  (¬ memL L e c ∧ r = .returned (.bool true) ∧ ∃ L', Good L' ∧ (∀ e' c', memL L' e' c' ↔ memL L e' c' ∨ (e' = e ∧ c' = c)) ∧ AddPost base b bv sv w L' w')

theorem all_under {A : List Sp} {s : Sp} {e c : Nat} (hG : Good (A ++ [s])) (hu : s.under e c) : ∀ t ∈ A ++ [s], t.under e c := by
  intro t ht
  rcases List.mem_append.1 ht with h | h
  · have h1 := (List.pairwise_append.1 hG.ord).2.2 t h s (by simp)
    have h2 := hG.small s (by simp)
    unfold Sp.apart at h1
    unfold Sp.under at hu ⊢
    omega
  · simp at h; subst h; exact hu
theorem not_mem_under {L : List Sp} {e c : Nat} (h : ∀ t ∈ L, t.under e c) : ¬ memL L e c := by
  rintro ⟨t, ht, h1⟩
  have h2 := h t ht
  unfold Sp.under at h2
  unfold Sp.holds at h1
  omega

theorem add_PS (base b : Nat) (bv sv : Value) (L : List Sp) (e c : Nat) (w : World) (h : PS w base b bv sv L) (hG : Good L) (he : e ≤ 2) (hc : c ≤ 5) (hbase : base ≤ w.heap.size) :
    Calls Yba.prog 10 #[.pointer (some ⟨b, 0, none⟩), pos e c, pos e c] w fun r w' => AddRes base b bv sv L e c w r w' := by
  by_cases hL : L = []
  · subst hL
    refine (add_nil base b bv sv e c w h hbase).mono ?_
    rintro r w' ⟨rfl, hp⟩
    have hn : ¬ memL [] e c := by rintro ⟨t, ht, _⟩; simp at ht
    obtain ⟨h1, h2⟩ := add_good [] [] e c he hc hG (by simp) (by simp) hn
    exact .inr ⟨hn, rfl, _, h1, h2, hp⟩
  · obtain ⟨A, s, rfl⟩ : ∃ A s, L = A ++ [s] := ⟨L.dropLast, L.getLast hL, (List.dropLast_concat_getLast hL).symm⟩
    by_cases hu : s.under e c
    · have hall := all_under hG hu
      have hn := not_mem_under hall
      have hp := List.pairwise_append.1 hG.ord
      have hs := hG.small s (by simp)
      by_cases hj : s.e = e ∧ s.hi + 1 = c
      · obtain ⟨he1, hc1⟩ := hj
        refine (add_top3 base b bv sv A s e c w h hG hc hbase hu he1 hc1).mono ?_
        rintro r w' ⟨rfl, hp'⟩
        have hAu : ∀ t ∈ A, t.under e (c - 1) := fun t ht => by
          have h1 := hp.2.2 t ht s (by simp)
          unfold Sp.apart at h1
          unfold Sp.under
          omega
        have hRu : ∀ t ∈ [s], ¬ t.under e (c - 1) := fun t ht => by
          simp at ht
          subst ht
          unfold Sp.under
          omega
        obtain ⟨h1, h2⟩ := add_good A [s] e c he hc hG hAu hRu hn
        have ej : joinAll ⟨e, c, c⟩ [s] = [⟨s.e, s.lo, c⟩] := by
          rw [joinAll, if_pos (by simp; omega), joinAll]
          have e1 : min c s.lo = s.lo := by omega
          have e2 : max c s.hi = c := by omega
          simp only [e1, e2, he1]
        rw [ej] at h1 h2
        exact .inr ⟨hn, rfl, _, h1, h2, hp'⟩
      · have hAu : ∀ t ∈ A ++ [s], t.under e (c - 1) := by
          refine all_under hG ?_
          unfold Sp.under at hu ⊢
          omega
        have hcalls : Calls Yba.prog 10 #[.pointer (some ⟨b, 0, none⟩), pos e c, pos e c] w fun r w' => r = .returned (.bool true) ∧ AddPost base b bv sv w (A ++ [s] ++ [⟨e, c, c⟩]) w' := by
          by_cases he1 : s.e = e
          · exact add_top2 base b bv sv A s e c w h hG hc hbase hu he1 (fun hx => hj ⟨he1, hx⟩)
          · exact add_top1 base b bv sv A s e c w h hG hc hbase hu he1
        refine hcalls.mono ?_
        rintro r w' ⟨rfl, hp'⟩
        have hn' : ¬ memL (A ++ [s] ++ []) e c := by rw [List.append_nil]; exact hn
        obtain ⟨h1, h2⟩ := add_good (A ++ [s]) [] e c he hc (by rw [List.append_nil]; exact hG) hAu (by simp) hn'
        rw [List.append_nil] at h2
        exact .inr ⟨hn, rfl, _, h1, h2, hp'⟩
    · refine (add_low base b bv sv A s e c w h hG hc hbase hu).mono ?_
      rintro r w' (⟨h1, h2, h3⟩ | ⟨h1, h2, A1, R1, hsp, hA1, hR1, hp'⟩)
      · exact .inl ⟨h1, h2, h3⟩
      · rw [hsp] at hG h1
        obtain ⟨g1, g2⟩ := add_good A1 R1 e c he hc hG hA1 hR1 h1
        rw [hsp]
        exact .inr ⟨h1, h2, _, g1, g2, hp'⟩
end Go.Proofs.Ybulkdaie.Scr
