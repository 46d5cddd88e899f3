/-
  What the joining loop of PosSet.Add keeps.
-/
import Derived.Test.YbulkdaieS18
namespace Go.Proofs.Ybulkdaie.Scr
open Go.RowKit
set_option linter.unusedVariables false
set_option linter.unusedSimpArgs false

def LowPost (base b : Nat) (bv sv : Value) (LL : List Sp) (e c : Nat) (w : World) (r : Ending) (w' : World) : Prop :=
  (memL LL e c ∧ r = .returned (.bool false) ∧ Below w.heap.size w w') ∨
  (¬ memL LL e c ∧ r = .returned (.bool true) ∧ ∃ A R, LL = A ++ R ∧ (∀ t ∈ A, t.under e (c - 1)) ∧ (∀ t ∈ R, ¬ t.under e (c - 1)) ∧ AddPost base b bv sv w (A ++ joinAll ⟨e, c, c⟩ R) w')

theorem bel1 {w w6 : World} (h : Below w.drew.heap.size w.drew w6) : Below w.heap.size w w6 := ⟨h.os, h.tape, h.output, h.size, h.block⟩
theorem bel2 {w w5 w6 : World} (h0 : Below w.heap.size w w5) (h : Below w5.heap.size w5 w6) : Below w.heap.size w w6 := kstep h0 h h0.size
theorem bel3 {w w6 : World} {o : Obj} (h : Below (w.alloc o).drew.heap.size (w.alloc o).drew w6) : Below w.heap.size w w6 := by
  refine kstep ((Below.refl w.heap.size w).alloc (Nat.le_refl _) o) ⟨h.os, h.tape, h.output, h.size, h.block⟩ (by simp)
theorem ps_span {w : World} {base b hh cb g n cg : Nat} {L : List Sp} (h : PS w base b (.slice (some ⟨hh, 0, none⟩) 1 cb) (.slice (some ⟨g, 0, none⟩) n cg) L) (q : Nat) (s : Sp) (hs : L[q]? = some s) :
    w.cell? ⟨g, q * 3, none⟩ = some (.int .u64 (s.e : Int)) ∧ w.cell? ⟨g, q * 3 + 1, none⟩ = some (.int .u64 (s.lo : Int)) ∧ w.cell? ⟨g, q * 3 + 2, none⟩ = some (.int .u64 (s.hi : Int)) := by
  have hne : L ≠ [] := by intro e; rw [e] at hs; simp at hs
  obtain ⟨_, _, _, _, e1, e2, _, hS, _⟩ := h.some hne
  cases e1
  cases e2
  exact owns_spAt hS q s hs
theorem mem_head (A R : List Sp) (s : Sp) (e c d : Nat) (hd : d = c - 1) (hG : Good (A ++ s :: R)) (hA : ∀ t ∈ A, t.under e d) (hR : ∀ t ∈ s :: R, ¬ t.under e d) : memL (A ++ s :: R) e c ↔ s.holds e c := by
  constructor
  · rintro ⟨t, ht, h⟩
    have hp := List.pairwise_append.1 hG.ord
    rcases List.mem_append.1 ht with ht | ht
    · exfalso
      have h1 := hA t ht
      unfold Sp.under at h1
      unfold Sp.holds at h
      omega
    · rcases List.mem_cons.1 ht with rfl | ht
      · exact h
      · exfalso
        have h1 := (List.pairwise_cons.1 hp.2.1).1 t ht
        have h2 := hR s (by simp)
        unfold Sp.apart at h1
        unfold Sp.under at h2
        unfold Sp.holds at h
        omega
  · intro h
    exact ⟨s, by simp, h⟩
theorem has_is (e lo hi e' c' : Nat) (w : World) (x : Bool) (hx : hasP e lo hi e' c' = x) : Calls Yba.prog 21 #[spn e lo hi, pos e' c'] w fun r w' => r = .returned (.bool x) ∧ Below w.heap.size w w' := by
  subst hx
  exact has_any e lo hi e' c' w
theorem rowB {w w6 : World} {L : Array Value} {t : TypeId} (h : Below (w.alloc (.cells L t)).drew.heap.size (w.alloc (.cells L t)).drew w6) : RowAt w6 w.heap.size t L.toList := by
  unfold RowAt
  rw [h.block w.heap.size (by simp)]
  show (w.alloc (.cells L t)).heap[w.heap.size]? = _
  rw [heap_alloc_new]

/-- What the joining loop keeps. -/
structure LI (w wr : World) (base b : Nat) (bv sv : Value) (A : List Sp) (R0 : List Sp) (e c d N2 X P : Nat) (R : List Sp) (lo hi : Nat) (bv' sv' : Value) : Prop where
  ps : PS wr base b bv' sv' (A ++ R)
  good : Good (A ++ R)
  ov : ∀ t ∈ R, ¬ t.under e d
  joined : joinAll ⟨e, c, c⟩ R0 = joinAll ⟨e, lo, hi⟩ R
  lh : lo ≤ hi
  h5 : hi ≤ 5
  place : RowAt wr P 89 [.int .i64 (plB A R : Int), .int .i64 (plI A R : Int)]
  run : RowAt wr N2 67 (spc ⟨e, lo, hi⟩)
  from_ : RowAt wr X 32 [.int .u64 (e : Int), .int .u64 (d : Int)]
  chg : Chg (Foot b bv sv) w wr
  foot : ∀ k, Foot b bv' sv' k → Foot b bv sv k
  nums : w.heap.size < N2 ∧ N2 < X ∧ X < P

def joinB (e hi : Nat) : List Sp → Bool
  | [] => false
  | s :: _ => decide (s.e = e ∧ (s.lo ≤ hi ∨ s.lo = hi + 1))

theorem LI.drewN {w wr : World} {base b : Nat} {bv sv : Value} {A R0 : List Sp} {e c d N2 X P : Nat} {R : List Sp} {lo hi : Nat} {bv' sv' : Value} (h : LI w wr base b bv sv A R0 e c d N2 X P R lo hi bv' sv') (k : Nat) : LI w (wr.drewN k) base b bv sv A R0 e c d N2 X P R lo hi bv' sv' :=
  ⟨h.ps.same rfl, h.good, h.ov, h.joined, h.lh, h.h5, h.place, h.run, h.from_, ⟨h.chg.os, h.chg.tape, h.chg.output, h.chg.size, h.chg.block⟩, h.foot, h.nums⟩
theorem LI.exit {w wr : World} {base b : Nat} {bv sv : Value} {A R0 : List Sp} {e c d N2 X P : Nat} {R : List Sp} {lo hi : Nat} {bv' sv' : Value} (h : LI w wr base b bv sv A R0 e c d N2 X P R lo hi bv' sv') (hj : joinB e hi R = false) : A ++ joinAll ⟨e, c, c⟩ R0 = A ++ ⟨e, lo, hi⟩ :: R := by
  rw [h.joined]
  cases R with
  | nil => rfl
  | cons s R =>
    unfold joinB at hj
    rw [joinAll, if_neg (by simpa using hj)]
theorem LI.nfoot {w wr : World} {base b : Nat} {bv sv : Value} {A R0 : List Sp} {e c d N2 X P : Nat} {R : List Sp} {lo hi : Nat} {bv' sv' : Value} (h : LI w wr base b bv sv A R0 e c d N2 X P R lo hi bv' sv') (hlt : ∀ k, Foot b bv sv k → k < w.heap.size) : (¬ Foot b bv' sv' N2) ∧ (¬ Foot b bv' sv' X) ∧ ¬ Foot b bv' sv' P := by
  have hn := h.nums
  refine ⟨fun hk => ?_, fun hk => ?_, fun hk => ?_⟩
  · have := hlt _ (h.foot _ hk); omega
  · have := hlt _ (h.foot _ hk); omega
  · have := hlt _ (h.foot _ hk); omega
/-- The span at the head of R is cast into the run. -/
theorem LI.grow {w wr w1 : World} {base b : Nat} {bv sv : Value} {A R0 : List Sp} {e c d N2 X P : Nat} {R : List Sp} {lo hi : Nat} {bv' sv' : Value} {s : Sp} (h : LI w wr base b bv sv A R0 e c d N2 X P (s :: R) lo hi bv' sv') (hlt : ∀ k, Foot b bv sv k → k < w.heap.size)
    (hc : Chg (fun k => k = N2) wr w1) : PS w1 base b bv' sv' (A ++ s :: R) ∧ RowAt w1 P 89 [.int .i64 (plB A (s :: R) : Int), .int .i64 (plI A (s :: R) : Int)] ∧ RowAt w1 X 32 [.int .u64 (e : Int), .int .u64 (d : Int)] ∧ Chg (Foot b bv sv) w w1 := by
  have hn := h.nums
  have hf := h.nfoot hlt
  refine ⟨h.ps.chg (F := fun k => k = N2) hc (fun k hk e => hf.1 (e ▸ hk)), RowAt.chg (F := fun k => k = N2) h.place hc (by show P ≠ N2; omega), RowAt.chg (F := fun k => k = N2) h.from_ hc (by show X ≠ N2; omega), ?_⟩
  exact Chg.trans h.chg hc (fun k hk => .inr (by have : k = N2 := hk; omega))
theorem LI.next {w wr w1 w2 w3 w4 : World} {base b : Nat} {bv sv : Value} {A R0 : List Sp} {e c d N2 X P : Nat} {R : List Sp} {lo hi : Nat} {bv' sv' bv2 sv2 : Value} {s : Sp} (h : LI w wr base b bv sv A R0 e c d N2 X P (s :: R) lo hi bv' sv') (hlt : ∀ k, Foot b bv sv k → k < w.heap.size) (hj : joinB e hi (s :: R) = true)
    (hc1 : Chg (fun k => k = N2) wr w1) (hrun : RowAt w1 N2 67 (spc ⟨e, min lo s.lo, max hi s.hi⟩))
    (hps2 : PS w2 base b bv2 sv2 (A ++ R)) (hc2 : Chg (Foot b bv' sv') w1 w2) (hf2 : ∀ k, Foot b bv2 sv2 k → Foot b bv' sv' k)
    (hb3 : Below w2.heap.size w2 w3) (hc4 : Chg (fun k => k = P) w3 w4) (hpl : RowAt w4 P 89 [.int .i64 (plB A R : Int), .int .i64 (plI A R : Int)]) :
    LI w w4 base b bv sv A R0 e c d N2 X P R (min lo s.lo) (max hi s.hi) bv2 sv2 := by
  have hn := h.nums
  have hf := h.nfoot hlt
  obtain ⟨hg1, hg2, hg3, hg4⟩ := h.grow hlt hc1
  have hp := List.pairwise_append.1 h.good.ord
  have hsm := h.good.small s (by simp)
  have hc3 : Chg (fun _ => False) w2 w3 := Chg.of_below hb3
  refine ⟨?_, ⟨?_, ?_⟩, fun t ht => h.ov t (by simp [ht]), ?_, ?_, ?_, hpl, ?_, ?_, ?_, fun k hk => h.foot k (hf2 k hk), hn⟩
  · refine (hps2.below hb3).chg (F := fun k => k = P) hc4 (fun k hk e => hf.2.2 ?_)
    have : k = P := e
    rw [← this]; exact hf2 k hk
  · rw [List.pairwise_append]
    exact ⟨hp.1, (List.pairwise_cons.1 hp.2.1).2, fun a ha t ht => hp.2.2 a ha t (by simp [ht])⟩
  · intro t ht
    rcases List.mem_append.1 ht with ht | ht
    · exact h.good.small t (by simp [ht])
    · exact h.good.small t (by simp [ht])
  · rw [h.joined]
    unfold joinB at hj
    rw [joinAll, if_pos (by simpa using hj)]
  · have := h.lh; omega
  · have := h.h5; omega
  · refine RowAt.chg (F := fun k => k = P) (RowAt.chg (F := fun _ => False) (RowAt.chg (F := Foot b bv' sv') hrun hc2 hf.1) hc3 (fun h => h)) hc4 (by show N2 ≠ P; omega)
  · refine RowAt.chg (F := fun k => k = P) (RowAt.chg (F := fun _ => False) (RowAt.chg (F := Foot b bv' sv') hg3 hc2 hf.2.1) hc3 (fun h => h)) hc4 (by show X ≠ P; omega)
  · refine Chg.trans (Chg.trans (Chg.trans hg4 hc2 (fun k hk => .inl (h.foot k hk))) hc3 (fun k hk => hk.elim)) hc4 (fun k hk => .inr (by have : k = P := hk; omega))

theorem unDrewC {F : Nat → Prop} {W w' : World} (h : Chg F W.drew w') : Chg F W w' := ⟨h.os, h.tape, h.output, h.size, h.block⟩
theorem good_drop {A R : List Sp} {s : Sp} (h : Good (A ++ s :: R)) : Good (A ++ R) := by
  have hp := List.pairwise_append.1 h.ord
  refine ⟨?_, ?_⟩
  · rw [List.pairwise_append]
    exact ⟨hp.1, (List.pairwise_cons.1 hp.2.1).2, fun a ha t ht => hp.2.2 a ha t (by simp [ht])⟩
  · intro t ht
    rcases List.mem_append.1 ht with ht | ht
    · exact h.small t (by simp [ht])
    · exact h.small t (by simp [ht])
theorem chg2 (w : World) (P j j' : Nat) (u u' : Value) : Chg (fun k => k = P) w ((w.setCell ⟨P, j, none⟩ u).setCell ⟨P, j', none⟩ u') :=
  Chg.setCell (F := fun k => k = P) (p := ⟨P, j', none⟩) (Chg.setCell (F := fun k => k = P) (p := ⟨P, j, none⟩) (Chg.refl _ _) u (.inl rfl)) u' (.inl rfl)
theorem split_uniq {A R A' R' : List Sp} {e d : Nat} (h : A ++ R = A' ++ R') (hA : ∀ t ∈ A, t.under e d) (hR : ∀ t ∈ R, ¬ t.under e d) (hA' : ∀ t ∈ A', t.under e d) (hR' : ∀ t ∈ R', ¬ t.under e d) : A' = A ∧ R' = R := by
  have hl : A'.length = A.length := by
    rcases Nat.lt_trichotomy A'.length A.length with h1 | h1 | h1
    · exfalso
      have h2 : (A ++ R)[A'.length]? = some A[A'.length] := by rw [List.getElem?_append_left h1, List.getElem?_eq_getElem h1]
      rw [h, List.getElem?_append_right (Nat.le_refl _), Nat.sub_self] at h2
      exact hR' _ (List.mem_of_getElem? h2) (hA _ (List.getElem_mem h1))
    · exact h1
    · exfalso
      have h2 : (A' ++ R')[A.length]? = some A'[A.length] := by rw [List.getElem?_append_left h1, List.getElem?_eq_getElem h1]
      rw [← h, List.getElem?_append_right (Nat.le_refl _), Nat.sub_self] at h2
      exact hR _ (List.mem_of_getElem? h2) (hA' _ (List.getElem_mem h1))
  have := List.append_inj h hl.symm
  exact ⟨this.1.symm, this.2.symm⟩
theorem LI.done {w wr wI : World} {base b : Nat} {bv sv : Value} {A R0 : List Sp} {e c d N2 X P : Nat} {R : List Sp} {lo hi : Nat} {bv' sv' bvI svI : Value} (h : LI w wr base b bv sv A R0 e c d N2 X P R lo hi bv' sv') (hj : joinB e hi R = false)
    (hp : PS wI base b bvI svI (A ++ ⟨e, lo, hi⟩ :: R)) (hc : Chg (Foot b bv' sv') wr wI) (hf : ∀ k, Foot b bvI svI k → Foot b bv' sv' k ∨ wr.heap.size ≤ k) : AddPost base b bv sv w (A ++ joinAll ⟨e, c, c⟩ R0) wI := by
  rw [h.exit hj]
  refine ⟨bvI, svI, hp, Chg.trans h.chg hc (fun k hk => .inl (h.foot k hk)), fun k hk => ?_⟩
  rcases hf k hk with h1 | h1
  · exact .inl (h.foot k h1)
  · have := h.chg.size; right; omega
theorem LI.start {w V7 w8 : World} {base b : Nat} {bv sv : Value} {A R LL : List Sp} {e c d X P : Nat} (h : PS w base b bv sv LL) (h7 : PS V7 base b bv sv LL) (hb7 : Below w.heap.size w V7) (hb8 : Below V7.heap.size V7 w8)
    (hP : RowAt V7 P 89 [.int .i64 (plB A R : Int), .int .i64 (plI A R : Int)]) (hsp : LL = A ++ R) (hG : Good LL) (hR : ∀ t ∈ R, ¬ t.under e d)
    (hr : RowAt V7 (w.heap.size + 1 + 1) 67 (spc ⟨e, c, c⟩)) (hv : RowAt V7 X 32 [.int .u64 (e : Int), .int .u64 (d : Int)]) (hX0 : w.heap.size + 2 < X) (hXP : X < P) (hc5 : c ≤ 5) :
    LI w w8 base b bv sv A R e c d (w.heap.size + 1 + 1) X P R c c bv sv := by
  have hc8 : Chg (fun _ => False) V7 w8 := Chg.of_below hb8
  subst hsp
  exact ⟨h7.below hb8, hG, hR, rfl, Nat.le_refl _, hc5, RowAt.chg hP hc8 (fun h => h), RowAt.chg hr hc8 (fun h => h), RowAt.chg hv hc8 (fun h => h), Chg.of_below (kstep hb7 hb8 hb7.size), fun _ hk => hk, by omega, by omega, hXP⟩

end Go.Proofs.Ybulkdaie.Scr
