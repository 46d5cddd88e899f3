/-
  Sets of positions as lists of spans: the pure side.
-/
import Derived.Test.YbulkdaieS1
namespace Go.Proofs.Ybulkdaie.Scr
set_option linter.unusedVariables false
set_option linter.unusedSimpArgs false

/-- A span: epoch, lo, hi. -/
structure Sp where
  e : Nat
  lo : Nat
  hi : Nat

/-- The span's last position lies below (e, c). -/
def Sp.under (s : Sp) (e c : Nat) : Prop := s.e < e ∨ (s.e = e ∧ s.hi < c)
def Sp.holds (s : Sp) (e c : Nat) : Prop := e = s.e ∧ s.lo ≤ c ∧ c ≤ s.hi
/-- s lies below t and does not meet it. -/
def Sp.apart (s t : Sp) : Prop := s.e < t.e ∨ (s.e = t.e ∧ s.hi + 1 < t.lo)
/-- In order, apart, small. -/
structure Good (L : List Sp) : Prop where
  ord : L.Pairwise Sp.apart
  small : ∀ s ∈ L, s.e ≤ 2 ∧ s.lo ≤ s.hi ∧ s.hi ≤ 5
def memL (L : List Sp) (e c : Nat) : Prop := ∃ s ∈ L, s.holds e c

theorem cmpP_neg (e c e' c' : Nat) : cmpP e c e' c' < 0 ↔ (e < e' ∨ (e = e' ∧ c < c')) := by
  unfold cmpP cmpN
  by_cases h1 : e < e'
  · simp [h1]
  · by_cases h2 : e' < e
    · simp [h1, h2]; omega
    · obtain rfl : e = e' := by omega
      simp
      by_cases h3 : c < c'
      · simp [h3]
      · by_cases h4 : c' < c
        · simp [h3, h4]
        · simp [h3, h4]
theorem cmpP_under (s : Sp) (e c : Nat) : cmpP s.e s.hi e c < 0 ↔ s.under e c := cmpP_neg _ _ _ _

/-- The run takes in the spans that it meets. -/
def joinAll (run : Sp) : List Sp → List Sp
  | [] => [run]
  | s :: R => if s.e = run.e ∧ (s.lo ≤ run.hi ∨ s.lo = run.hi + 1) then joinAll ⟨run.e, min run.lo s.lo, max run.hi s.hi⟩ R else run :: s :: R

theorem memL_append (A B : List Sp) (e c : Nat) : memL (A ++ B) e c ↔ memL A e c ∨ memL B e c := by
  unfold memL
  constructor
  · rintro ⟨s, hs, h⟩
    rcases List.mem_append.1 hs with hs | hs
    · exact .inl ⟨s, hs, h⟩
    · exact .inr ⟨s, hs, h⟩
  · rintro (⟨s, hs, h⟩ | ⟨s, hs, h⟩)
    · exact ⟨s, List.mem_append.2 (.inl hs), h⟩
    · exact ⟨s, List.mem_append.2 (.inr hs), h⟩
theorem memL_cons (s : Sp) (B : List Sp) (e c : Nat) : memL (s :: B) e c ↔ s.holds e c ∨ memL B e c := by
  unfold memL
  simp

/-- All of R lies above run, all of A below it and apart. -/
theorem joinAll_above (A : List Sp) (hA : A.Pairwise Sp.apart) (hAs : ∀ s ∈ A, s.e ≤ 2 ∧ s.lo ≤ s.hi ∧ s.hi ≤ 5) :
    ∀ (R : List Sp) (run : Sp), run.e ≤ 2 → run.lo ≤ run.hi → run.hi ≤ 5 → R.Pairwise Sp.apart → (∀ s ∈ R, s.e ≤ 2 ∧ s.lo ≤ s.hi ∧ s.hi ≤ 5) →
      (∀ s ∈ R, run.e < s.e ∨ (s.e = run.e ∧ run.hi < s.lo)) → (∀ s ∈ A, s.apart run) → (∀ a ∈ A, ∀ s ∈ R, a.apart s) →
      Good (A ++ joinAll run R) ∧ ∀ e c, memL (A ++ joinAll run R) e c ↔ memL A e c ∨ run.holds e c ∨ memL R e c := by
  intro R
  induction R with
  | nil =>
    intro run h1 h2 h3 _ _ _ h4 _
    refine ⟨⟨?_, ?_⟩, ?_⟩
    · rw [joinAll, List.pairwise_append]
      exact ⟨hA, by simp, fun a ha b hb => by simp at hb; subst hb; exact h4 a ha⟩
    · intro s hs
      rcases List.mem_append.1 hs with hs | hs
      · exact hAs s hs
      · simp [joinAll] at hs; subst hs; exact ⟨h1, h2, h3⟩
    · intro e c
      rw [memL_append, joinAll, memL_cons]
  | cons s R ih =>
    intro run h1 h2 h3 hR hRs hab h4 h5
    have hs := hRs s (List.mem_cons_self ..)
    have has := hab s (List.mem_cons_self ..)
    have hR' := List.pairwise_cons.1 hR
    unfold joinAll
    by_cases hc : s.e = run.e ∧ (s.lo ≤ run.hi ∨ s.lo = run.hi + 1)
    · rw [if_pos hc]
      have e1 : min run.lo s.lo = run.lo := by omega
      have e2 : max run.hi s.hi = s.hi := by omega
      rw [e1, e2]
      have ih' := ih ⟨run.e, run.lo, s.hi⟩ h1 (by simp; omega) (by simp; omega) hR'.2 (fun t ht => hRs t (List.mem_cons_of_mem _ ht)) (fun t ht => by
        have := hR'.1 t ht
        unfold Sp.apart at this
        simp
        omega) (fun a ha => by have := h4 a ha; unfold Sp.apart at this ⊢; exact this) (fun a ha t ht => h5 a ha t (List.mem_cons_of_mem _ ht))
      refine ⟨ih'.1, fun e c => ?_⟩
      rw [ih'.2 e c, memL_cons]
      have : (Sp.holds ⟨run.e, run.lo, s.hi⟩ e c) ↔ run.holds e c ∨ s.holds e c := by
        unfold Sp.holds
        simp
        omega
      rw [this, or_assoc]
    · rw [if_neg hc]
      have hap : run.apart s := by unfold Sp.apart; omega
      refine ⟨⟨?_, ?_⟩, ?_⟩
      · rw [List.pairwise_append]
        refine ⟨hA, ?_, ?_⟩
        · refine List.pairwise_cons.2 ⟨fun t ht => ?_, hR⟩
          rcases List.mem_cons.1 ht with rfl | ht
          · exact hap
          · have := hR'.1 t ht
            unfold Sp.apart at this hap ⊢
            omega
        · intro a ha b hb
          rcases List.mem_cons.1 hb with rfl | hb
          · exact h4 a ha
          · exact h5 a ha b hb
      · intro t ht
        rcases List.mem_append.1 ht with ht | ht
        · exact hAs t ht
        · rcases List.mem_cons.1 ht with rfl | ht
          · exact ⟨h1, h2, h3⟩
          · exact hRs t ht
      · intro e c
        rw [memL_append, memL_cons]

/-- Putting (e, c) into A ++ R, A below (e, c - 1), R not. -/
theorem add_good (A R : List Sp) (e c : Nat) (he : e ≤ 2) (hc : c ≤ 5) (hG : Good (A ++ R)) (hA : ∀ s ∈ A, s.under e (c - 1)) (hR : ∀ s ∈ R, ¬ s.under e (c - 1)) (hn : ¬ memL (A ++ R) e c) :
    Good (A ++ joinAll ⟨e, c, c⟩ R) ∧ ∀ e' c', memL (A ++ joinAll ⟨e, c, c⟩ R) e' c' ↔ memL (A ++ R) e' c' ∨ (e' = e ∧ c' = c) := by
  have hp := List.pairwise_append.1 hG.ord
  have hsm := hG.small
  have hAs : ∀ s ∈ A, s.e ≤ 2 ∧ s.lo ≤ s.hi ∧ s.hi ≤ 5 := fun s hs => hsm s (List.mem_append.2 (.inl hs))
  have hRs : ∀ s ∈ R, s.e ≤ 2 ∧ s.lo ≤ s.hi ∧ s.hi ≤ 5 := fun s hs => hsm s (List.mem_append.2 (.inr hs))
  have hno : ∀ s ∈ R, ¬ s.holds e c := fun s hs h => hn ⟨s, List.mem_append.2 (.inr hs), h⟩
  have hself : ∀ e' c', (Sp.holds ⟨e, c, c⟩ e' c') ↔ (e' = e ∧ c' = c) := fun e' c' => by unfold Sp.holds; simp; omega
  have hup : ∀ s ∈ R, (e < s.e ∨ (s.e = e ∧ c < s.lo)) ∨ (s.e = e ∧ 1 ≤ c ∧ s.hi = c - 1) := fun s hs => by
    have h1 := hR s hs
    have h2 := hno s hs
    have h3 := hRs s hs
    unfold Sp.under at h1
    unfold Sp.holds at h2
    omega
  by_cases hcase : ∃ s R', R = s :: R' ∧ s.e = e ∧ 1 ≤ c ∧ s.hi = c - 1
  · obtain ⟨s, R', rfl, h1, h2, h3⟩ := hcase
    have hs := hRs s (List.mem_cons_self ..)
    have hR' := List.pairwise_cons.1 hp.2.1
    have e0 : joinAll ⟨e, c, c⟩ (s :: R') = joinAll ⟨e, s.lo, c⟩ R' := by
      rw [joinAll, if_pos (by simp; omega)]
      have e1 : min c s.lo = s.lo := by omega
      have e2 : max c s.hi = c := by omega
      simp only [e1, e2]
    rw [e0]
    have J := joinAll_above A hp.1 hAs R' ⟨e, s.lo, c⟩ he (by simp; omega) (by simpa using hc) hR'.2 (fun t ht => hRs t (List.mem_cons_of_mem _ ht)) (fun t ht => by
      have h4 := hup t (List.mem_cons_of_mem _ ht)
      have h5 := hR'.1 t ht
      have h6 := hRs t (List.mem_cons_of_mem _ ht)
      unfold Sp.apart at h5
      simp
      omega) (fun a ha => by
      have := hp.2.2 a ha s (List.mem_cons_self ..)
      unfold Sp.apart at this ⊢
      simp
      omega) (fun a ha t ht => hp.2.2 a ha t (List.mem_cons_of_mem _ ht))
    refine ⟨J.1, fun e' c' => ?_⟩
    rw [J.2 e' c', memL_append, memL_cons]
    have : (Sp.holds ⟨e, s.lo, c⟩ e' c') ↔ s.holds e' c' ∨ (e' = e ∧ c' = c) := by
      unfold Sp.holds
      simp
      omega
    rw [this]
    constructor
    · rintro (h | (h | h) | h)
      · exact .inl (.inl h)
      · exact .inl (.inr (.inl h))
      · exact .inr h
      · exact .inl (.inr (.inr h))
    · rintro ((h | h | h) | h)
      · exact .inl h
      · exact .inr (.inl (.inl h))
      · exact .inr (.inr h)
      · exact .inr (.inl (.inr h))
  · have hup' : ∀ s ∈ R, e < s.e ∨ (s.e = e ∧ c < s.lo) := by
      intro s hs
      rcases hup s hs with h | h
      · exact h
      · exfalso
        cases R with
        | nil => simp at hs
        | cons t R' =>
          rcases List.mem_cons.1 hs with rfl | hs'
          · exact hcase ⟨_, _, rfl, h⟩
          · have h1 := (List.pairwise_cons.1 hp.2.1).1 s hs'
            have h2 := hRs t (List.mem_cons_self ..)
            have h3 := hRs s (List.mem_cons_of_mem _ hs')
            have h4 := hup t (List.mem_cons_self ..)
            have h5 := hR t (List.mem_cons_self ..)
            unfold Sp.apart at h1
            unfold Sp.under at h5
            omega
    have J := joinAll_above A hp.1 hAs R ⟨e, c, c⟩ he (Nat.le_refl _) hc hp.2.1 hRs (fun t ht => by simpa using hup' t ht) (fun a ha => by
      have := hA a ha
      unfold Sp.under at this
      unfold Sp.apart
      simp
      omega) hp.2.2
    refine ⟨J.1, fun e' c' => ?_⟩
    rw [J.2 e' c', memL_append, hself]
    constructor
    · rintro (h | h | h)
      · exact .inl (.inl h)
      · exact .inr h
      · exact .inl (.inr h)
    · rintro ((h | h) | h)
      · exact .inl h
      · exact .inr (.inr h)
      · exact .inr (.inl h)

theorem len_key : ∀ (L : List Sp) (m : Nat), L.Pairwise Sp.apart → (∀ s ∈ L, s.e ≤ 2 ∧ s.lo ≤ s.hi ∧ s.hi ≤ 5) → (∀ s ∈ L, m ≤ s.e * 6 + s.lo) → L.length ≤ 18 - m
  | [], m, _, _, _ => by simp
  | s :: L, m, hp, hs, hm => by
    have hp' := List.pairwise_cons.1 hp
    have h1 := hs s (List.mem_cons_self ..)
    have h2 := hm s (List.mem_cons_self ..)
    have h3 := len_key L (m + 1) hp'.2 (fun t ht => hs t (List.mem_cons_of_mem _ ht)) (fun t ht => by
      have h4 := hp'.1 t ht
      have h5 := hs t (List.mem_cons_of_mem _ ht)
      unfold Sp.apart at h4
      omega)
    simp
    omega
theorem Good.len {L : List Sp} (h : Good L) : L.length ≤ 18 := len_key L 0 h.ord h.small (fun _ _ => Nat.zero_le _)

/-- Those that lie under come first. -/
theorem under_mono {L : List Sp} (h : Good L) (e c : Nat) {i j : Nat} (hij : i ≤ j) {s t : Sp} (hs : L[i]? = some s) (ht : L[j]? = some t) (hu : t.under e c) : s.under e c := by
  rcases Nat.lt_or_ge i j with hlt | hge
  · obtain ⟨h1, h1'⟩ := List.getElem?_eq_some_iff.1 hs
    obtain ⟨h2, h2'⟩ := List.getElem?_eq_some_iff.1 ht
    have := List.pairwise_iff_getElem.1 h.ord i j h1 h2 hlt
    rw [h1', h2'] at this
    have h3 := h.small t (List.mem_of_getElem? ht)
    unfold Sp.apart at this
    unfold Sp.under at hu ⊢
    omega
  · obtain rfl : i = j := by omega
    rw [hs] at ht
    cases ht
    exact hu

end Go.Proofs.Ybulkdaie.Scr
