/-
  The first loop's round.
-/
import Derived.Test.YbulkdaieS28b
namespace Go.Proofs.Ybulkdaie.Scr
open Go.RowKit Go.Maps
set_option linter.unusedVariables false
set_option linter.unusedSimpArgs false

/-- A list with other cells from o on. -/
def over (C : List Value) (o : Nat) (vs : List Value) : List Value := C.take o ++ (vs ++ C.drop (o + vs.length))
theorem over_in {C vs : List Value} {o : Nat} (h : o + vs.length ≤ C.length) {k : Nat} (hk : k < vs.length) : (over C o vs)[o + k]? = vs[k]? := by
  unfold over
  have hl : (C.take o).length = o := by rw [List.length_take]; omega
  rw [List.getElem?_append_right (by omega), hl, Nat.add_sub_cancel_left, List.getElem?_append_left hk]
theorem over_before {C vs : List Value} {o : Nat} (h : o + vs.length ≤ C.length) {k : Nat} (hk : k < o) : (over C o vs)[k]? = C[k]? := by
  unfold over
  have hl : (C.take o).length = o := by rw [List.length_take]; omega
  rw [List.getElem?_append_left (by omega), List.getElem?_take, if_pos hk]
theorem over_len {C vs : List Value} {o : Nat} (h : o + vs.length ≤ C.length) : (over C o vs).length = C.length := by
  unfold over
  simp
  omega

section
variable {w wr X : World} {A : Tags} {ge n : Nat} {ltA ltO ltN : Nat → Lit} {xn xo xe xc wb : Nat → Nat} {i : Nat} {D1 D2 D3 D4 : DataW Unit} {wl rl : Nat → Value} {sw su : Nat → SD} {C : List Value}

theorem LS.put (h : LS w wr A ge n ltA ltO ltN xn xo xe xc wb i D1 D2 D3 D4 wl rl sw su C) (hi : i < n) (hc : Chg (fun k => k = ge) wr X) (hrow : RowAt X ge 42 (over C (i * 36) (evC ((i + 1 : Nat) : Int) ((xe i % 3 : Nat) : Int) ((xc i % 6 : Nat) : Int) (nodeS (xn i)) (opS (xo i))))) :
    St X (ext A wr.heap.size (0, none)) w.heap.size (w.heap.size + 4) w.heap.size (w.heap.size + 1) (w.heap.size + 2) (w.heap.size + 3) ltA ltO ltN (κA xn xe xc) (κO xn xo) (κN xn) (psS xe xc) (fun j => if j = i then X.heap.size else wb j) i D1 D2 D3 D4 wl rl sw su ∧
    (∀ j, j < i + 1 → EvAt X ge (j * 36) (j + 1) (nodeS (xn j)) (opS (xo j)) (xe j % 3) (xc j % 6)) ∧ (ext A wr.heap.size (0, none) ge).1 = 0 ∧
    (∀ j, j < i → RowAt X (wb j) 59 (waitCells (j + 1) (nodeS (xn j)) (opS (xo j)) (xe j % 3) (xc j % 6)) ∧ (ext A wr.heap.size (0, none) (wb j)).1 = 0) ∧ Below w.heap.size w X := by
  have hA : ∀ k, k < wr.heap.size → ext A wr.heap.size (0, none) k = A k := fun k hk => ext_old hk
  have hF : ∀ x, x ≠ 0 → ∀ k, k = ge → (A k).1 ≠ x := fun x hx k hk => by rw [hk, h.tge]; exact fun e => hx e.symm
  have hwb : ∀ j, j < i → (fun j => if j = i then X.heap.size else wb j) j = wb j := fun j hj => if_neg (by omega)
  have hgl := h.evs.lt
  have hCl := h.clen
  have hfit : i * 36 + (evC ((i + 1 : Nat) : Int) ((xe i % 3 : Nat) : Int) ((xc i % 6 : Nat) : Int) (nodeS (xn i)) (opS (xo i))).length ≤ C.length := by rw [evC_len, hCl]; omega
  have hne : ∀ t L g, t ≠ 42 → RowAt wr g t L → g ≠ ge := fun t L g ht hg e => by
    have h1 := h.evs
    unfold RowAt at h1 hg
    rw [e, h1] at hg
    simp at hg
    exact ht hg.2.symm
  refine ⟨⟨RowAt.chg h.st.ck hc (hne 56 _ _ (by decide) h.st.ck), by rw [hA _ h.st.ck.lt]; exact h.st.tck, h.st.wait.kept hc (hF 1 (by decide)) hA hwb, h.st.run.kept hc (hF 2 (by decide)) hA hwb, h.st.sw_.kept hc (hF 3 (by decide)) hA, h.st.su_.kept hc (hF 4 (by decide)) hA⟩, fun j hj => ?_, by rw [hA _ hgl]; exact h.tge, fun j hj => ?_, ?_⟩
  · by_cases hji : j = i
    · subst hji
      have hcell : ∀ k, k < 36 → X.cell? ⟨ge, j * 36 + k, none⟩ = (evC ((j + 1 : Nat) : Int) ((xe j % 3 : Nat) : Int) ((xc j % 6 : Nat) : Int) (nodeS (xn j)) (opS (xo j)))[k]? := fun k hk => by rw [hrow.cell]; exact over_in hfit (by rw [evC_len]; exact hk)
      exact ⟨by have := hcell 0 (by omega); simpa [evC] using this, by have := hcell 3 (by omega); simpa [evC] using this, by have := hcell 34 (by omega); simpa [evC] using this, by have := hcell 8 (by omega); simpa [evC] using this, by have := hcell 9 (by omega); simpa [evC] using this⟩
    · have he := h.ev j (by omega)
      have hold : ∀ k v, k < i * 36 → wr.cell? ⟨ge, k, none⟩ = some v → X.cell? ⟨ge, k, none⟩ = some v := fun k v hk hv => by
        rw [hrow.cell, over_before hfit hk, ← h.evs.cell]; exact hv
      exact ⟨hold _ _ (by omega) he.line_, hold _ _ (by omega) he.node_, hold _ _ (by omega) he.op_, hold _ _ (by omega) he.ep_, hold _ _ (by omega) he.ct_⟩
  · obtain ⟨h1, h2⟩ := h.waits j hj
    exact ⟨RowAt.chg h1 hc (hne 59 _ _ (by decide) h1), by rw [hA _ h1.lt]; exact h2⟩
  · have hb := h.below
    have hg := h.gew
    have hbs := hb.size
    refine ⟨hc.os.trans hb.os, hc.tape.trans hb.tape, hc.output.trans hb.output, Nat.le_trans hbs hc.size, fun k hk => ?_⟩
    rw [hc.block k (by omega) (fun e => by have : k = ge := e; omega)]
    exact hb.block k hk

theorem LS.next {W' : World} {A1 A' : Tags} {D1' D2' D3' D4' : DataW Unit} {wl' rl' : Nat → Value} {sw' su' : Nat → SD} (h : LS w wr A ge n ltA ltO ltN xn xo xe xc wb i D1 D2 D3 D4 wl rl sw su C) (hi : i < n) (hc : Chg (fun k => k = ge) wr X)
    (hrow : RowAt X ge 42 (over C (i * 36) (evC ((i + 1 : Nat) : Int) ((xe i % 3 : Nat) : Int) ((xc i % 6 : Nat) : Int) (nodeS (xn i)) (opS (xo i)))))
    (hst : St W' A' w.heap.size (w.heap.size + 4) w.heap.size (w.heap.size + 1) (w.heap.size + 2) (w.heap.size + 3) ltA ltO ltN (κA xn xe xc) (κO xn xo) (κN xn) (psS xe xc) (fun j => if j = i then X.heap.size else wb j) (i + 1) D1' D2' D3' D4' wl' rl' sw' su')
    (hw : RowAt W' X.heap.size 59 (waitCells (i + 1) (nodeS (xn i)) (opS (xo i)) (xe i % 3) (xc i % 6))) (htw : (A' X.heap.size).1 = 0) (hcW : Chg (fun k => (ext A wr.heap.size (0, none) k).1 ≠ 0) X W') (hA' : ∀ k, k < X.heap.size → A' k = ext A wr.heap.size (0, none) k) :
    LS w W' A' ge n ltA ltO ltN xn xo xe xc (fun j => if j = i then X.heap.size else wb j) (i + 1) D1' D2' D3' D4' wl' rl' sw' su' (over C (i * 36) (evC ((i + 1 : Nat) : Int) ((xe i % 3 : Nat) : Int) ((xc i % 6 : Nat) : Int) (nodeS (xn i)) (opS (xo i)))) := by
  obtain ⟨_, hev, htg, hws, hb⟩ := h.put hi hc hrow
  have hCl := h.clen
  have hfit : i * 36 + (evC ((i + 1 : Nat) : Int) ((xe i % 3 : Nat) : Int) ((xc i % 6 : Nat) : Int) (nodeS (xn i)) (opS (xo i))).length ≤ C.length := by rw [evC_len, hCl]; omega
  refine ⟨hst, ?_, RowAt.chg hrow hcW (fun hn => hn htg), by rw [over_len hfit]; exact hCl, by rw [hA' _ hrow.lt]; exact htg, h.gew, fun k hk => by rw [hA' k (by have := hb.size; omega), ext_old (by have := h.below.size; omega)]; exact h.low k hk, fun j hj => (hev j hj).chg hcW (fun hn => hn htg), fun j hj => ?_⟩
  · have hbs := hb.size
    refine ⟨hcW.os.trans hb.os, hcW.tape.trans hb.tape, hcW.output.trans hb.output, Nat.le_trans hbs hcW.size, fun k hk => ?_⟩
    by_cases hz : (ext A wr.heap.size (0, none) k).1 ≠ 0
    · exfalso
      refine hz ?_
      rw [ext_old (by have := h.below.size; omega)]
      exact h.low k hk
    · rw [hcW.block k (by omega) hz]
      exact hb.block k hk
  · by_cases hji : j = i
    · subst hji
      simp only [if_true]
      exact ⟨hw, htw⟩
    · simp only [hji, if_false]
      obtain ⟨h1, h2⟩ := hws j (by omega)
      exact ⟨RowAt.chg h1 hcW (fun hn => hn h2), by rw [hA' _ h1.lt]; exact h2⟩
end
end Go.Proofs.Ybulkdaie.Scr
