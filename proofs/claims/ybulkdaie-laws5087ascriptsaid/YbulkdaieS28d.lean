/-
  The second loop: what is counted.
-/
import Derived.Test.YbulkdaieS28c
namespace Go.Proofs.Ybulkdaie.Scr
open Go.RowKit Go.Maps
set_option linter.unusedVariables false
set_option linter.unusedSimpArgs false

theorem idx_at (κ : Nat → Nat) (i : Nat) : ∀ N, i < N → (idx κ (κ i) N)[(idx κ (κ i) i).length]? = some i
  | 0, h => by omega
  | N + 1, h => by
    rcases Nat.lt_or_ge i N with h1 | h1
    · have ih := idx_at κ i N h1
      have hl := (List.getElem?_eq_some_iff.1 ih).1
      rw [idx, List.getElem?_append_left hl]
      exact ih
    · obtain rfl : i = N := by omega
      rw [idx, if_pos rfl, List.getElem?_append_right (Nat.le_refl _), Nat.sub_self]
      rfl

/-- How many among the first j, how many among those ahead of i; is none ahead of i like it. -/
def cntAll (κ : Nat → Nat) (i j : Nat) : Nat := (idx κ (κ i) j).length
def cntPre (κ : Nat → Nat) (i j : Nat) : Nat := (idx κ (κ i) (min j i)).length
def newB (κ : Nat → Nat) (i j : Nat) : Bool := !(seen κ i (min j i))

theorem cntAll_step (κ : Nat → Nat) (i j : Nat) : cntAll κ i (j + 1) = cntAll κ i j + (if κ j = κ i then 1 else 0) := by
  unfold cntAll
  rw [idx, List.length_append]
  split <;> simp
theorem cntPre_step_lt {κ : Nat → Nat} {i j : Nat} (h : j < i) : cntPre κ i (j + 1) = cntPre κ i j + (if κ j = κ i then 1 else 0) := by
  unfold cntPre
  rw [show min (j + 1) i = j + 1 by omega, show min j i = j by omega, idx, List.length_append]
  split <;> simp
theorem cntPre_step_ge {κ : Nat → Nat} {i j : Nat} (h : i ≤ j) : cntPre κ i (j + 1) = cntPre κ i j := by
  unfold cntPre
  rw [show min (j + 1) i = i by omega, show min j i = i by omega]
theorem newB_step_lt {κ : Nat → Nat} {i j : Nat} (h : j < i) : newB κ i (j + 1) = (newB κ i j && !(κ j == κ i)) := by
  unfold newB
  rw [show min (j + 1) i = j + 1 by omega, show min j i = j by omega, seen]
  cases seen κ i j <;> cases (κ j == κ i) <;> rfl
theorem newB_step_ge {κ : Nat → Nat} {i j : Nat} (h : i ≤ j) : newB κ i (j + 1) = newB κ i j := by
  unfold newB
  rw [show min (j + 1) i = i by omega, show min j i = i by omega]
theorem cnt_le (κ : Nat → Nat) (i j : Nat) : cntAll κ i j ≤ j := idx_len κ _ j
theorem pre_le (κ : Nat → Nat) (i j : Nat) : cntPre κ i j ≤ j := Nat.le_trans (idx_len κ _ _) (by omega)
theorem dcnt_le (κ : Nat → Nat) : ∀ n, dcnt κ n ≤ n
  | 0 => Nat.le_refl _
  | n + 1 => by
    have := dcnt_le κ n
    rw [dcnt]
    split <;> omega
theorem dcnt_step (κ : Nat → Nat) (i N : Nat) (h : i ≤ N) : dcnt κ (i + 1) = dcnt κ i + (if newB κ i N = true then 1 else 0) := by
  unfold newB
  rw [dcnt, show min N i = i by omega]
  cases seen κ i i <;> rfl

section
variable {w wr wr' : World} {A : Tags} {ge n : Nat} {ltA ltO ltN : Nat → Lit} {xn xo xe xc wb : Nat → Nat} {i : Nat} {D1 D2 D3 D4 : DataW Unit} {wl rl : Nat → Value} {sw su : Nat → SD} {C : List Value}
theorem LS.bel (h : LS w wr A ge n ltA ltO ltN xn xo xe xc wb i D1 D2 D3 D4 wl rl sw su C) (hb : Below wr.heap.size wr wr') : LS w wr' A ge n ltA ltO ltN xn xo xe xc wb i D1 D2 D3 D4 wl rl sw su C := by
  have hc : Chg (fun _ => False) wr wr' := Chg.of_below hb
  refine ⟨⟨RowAt.chg h.st.ck hc (fun h => h), h.st.tck, h.st.wait.kept hc (fun _ hx => hx.elim) (fun _ _ => rfl) (fun _ _ => rfl), h.st.run.kept hc (fun _ hx => hx.elim) (fun _ _ => rfl) (fun _ _ => rfl), h.st.sw_.kept hc (fun _ hx => hx.elim) (fun _ _ => rfl), h.st.su_.kept hc (fun _ hx => hx.elim) (fun _ _ => rfl)⟩, kstep h.below hb h.below.size, RowAt.chg h.evs hc (fun h => h), h.clen, h.tge, h.gew, h.low, fun j hj => (h.ev j hj).chg hc (fun h => h), fun j hj => ⟨RowAt.chg (h.waits j hj).1 hc (fun h => h), (h.waits j hj).2⟩⟩

/-- The two lists of event j: its own pointer stands at the place that its order gives. -/
theorem LS.lists (h : LS w wr A ge n ltA ltO ltN xn xo xe xc wb i D1 D2 D3 D4 wl rl sw su C) {j : Nat} (hj : j < i) :
    (∃ g c, wl j = .slice (some ⟨g, 0, none⟩) (cntAll (κA xn xe xc) j i) c ∧ wr.cell? ⟨g, cntPre (κA xn xe xc) j i, none⟩ = some (.pointer (some ⟨wb j, 0, none⟩)) ∧ cntPre (κA xn xe xc) j i < cntAll (κA xn xe xc) j i) ∧
    (∃ g c, rl j = .slice (some ⟨g, 0, none⟩) (cntAll (κO xn xo) j i) c ∧ wr.cell? ⟨g, cntPre (κO xn xo) j i, none⟩ = some (.pointer (some ⟨wb j, 0, none⟩)) ∧ cntPre (κO xn xo) j i < cntAll (κO xn xo) j i) := by
  have one : ∀ (κ : Nat → Nat) (v : Value), wr.ownsRow w.heap.size 57 1 v (idx κ (κ j) i).length (ptrs wb (idx κ (κ j) i)) → ∃ g c, v = .slice (some ⟨g, 0, none⟩) (cntAll κ j i) c ∧ wr.cell? ⟨g, cntPre κ j i, none⟩ = some (.pointer (some ⟨wb j, 0, none⟩)) ∧ cntPre κ j i < cntAll κ j i := by
    intro κ v hr
    have hat := idx_at κ j i hj
    have hlt := (List.getElem?_eq_some_iff.1 hat).1
    obtain ⟨g, c, rfl, _, _⟩ := hr.form (by omega)
    refine ⟨g, c, rfl, ?_, ?_⟩
    · have hp : (ptrs wb (idx κ (κ j) i))[(idx κ (κ j) j).length]? = some (.pointer (some ⟨wb j, 0, none⟩)) := by
        unfold ptrs
        rw [List.getElem?_map, hat]
        rfl
      have := hr.cells (g := g) rfl _ _ hp
      rw [WideShapes.add_plain, Nat.zero_add] at this
      unfold cntPre
      rw [show min i j = j by omega]
      exact this
    · unfold cntPre cntAll
      rw [show min i j = j by omega]
      exact hlt
  exact ⟨one _ _ (h.st.wait.rows j hj), one _ _ (h.st.run.rows j hj)⟩
end
end Go.Proofs.Ybulkdaie.Scr
