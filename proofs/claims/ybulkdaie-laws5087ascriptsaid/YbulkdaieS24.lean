/-
  The steps: a list grows, a set is made, a set takes a position.
-/
import Derived.Test.YbulkdaieS23
namespace Go.Proofs.Ybulkdaie.Scr
open Go.RowKit Go.Maps
set_option linter.unusedVariables false
set_option linter.unusedSimpArgs false

theorem sl_inj {v u : Value} {ps : List MemPlace} (h : slElem v = some (slD u, ps)) (hu : u = .slice none 0 0 ∨ ∃ g n c, u = .slice (some ⟨g, 0, none⟩) n c) : v = u := by
  rcases hu with rfl | ⟨g, n, c, rfl⟩
  · unfold slElem at h
    split at h <;> simp [slD] at h
    rfl
  · unfold slElem at h
    split at h <;> simp [slD, numD] at h
    obtain ⟨⟨h1, h2, h3⟩, _⟩ := h
    have e1 : _ = g := Int.ofNat.inj h1
    have e2 : _ = n := Int.ofNat.inj h2
    have e3 : _ = c := Int.ofNat.inj h3
    subst e1; subst e2; subst e3
    rfl
theorem owns_form {w : World} {base : Nat} {e : TypeId} {size n : Nat} {v : Value} {xs : List Value} (h : w.ownsRow base e size v n xs) : v = .slice none 0 0 ∨ ∃ g n c, v = .slice (some ⟨g, 0, none⟩) n c := by
  rcases h.2 with ⟨h1, _⟩ | ⟨g, c, cur, h1, _⟩
  · exact .inl h1
  · exact .inr ⟨_, _, _, h1⟩
theorem sl_read {v : Value} (hu : v = .slice none 0 0 ∨ ∃ g n c, v = .slice (some ⟨g, 0, none⟩) n c) : slElem v = some (slD v, []) := by
  rcases hu with rfl | ⟨g, n, c, rfl⟩
  · rfl
  · rfl

section
variable {w w' : World} {A A' : Tags} {B m : Nat} {kt : TypeId} {tg : Nat} {lt : Nat → Lit} {κ : Nat → Nat} {wb : Nat → Nat} {N : Nat} {D : DataW Unit} {wl : Nat → Value}

theorem GL.look (h : GL w A B m kt tg lt κ wb N D wl) (hinj : ∀ i j, lt (κ i) = lt (κ j) → κ i = κ j) {v0 : Value} {ps : List MemPlace} (hv : slElem v0 = some (D.atKey (lt (κ N)) .nil, ps)) :
    w.ownsRow B 57 1 v0 (idx κ (κ N) N).length (ptrs wb (idx κ (κ N) N)) ∧ (∀ k, v0.ownBlock = some k → A k = (tg, some (κ N))) := by
  cases hs : has D (lt (κ N)) with
  | true =>
    obtain ⟨j, hj, hk⟩ := (h.has_ _).1 hs
    have hkk := hinj j N hk
    rw [← hk, h.at_ j hj] at hv
    have hr := h.rows j hj
    have e := sl_inj hv (owns_form hr)
    subst e
    rw [← hkk]
    exact ⟨hr, fun k hk' => h.tagr j k hj hk'⟩
  | false =>
    have hno : ∀ j, j < N → κ j ≠ κ N := fun j hj e => by
      have := (h.has_ (lt (κ N))).2 ⟨j, hj, by rw [e]⟩
      rw [hs] at this
      cases this
    have hat := atKey_of_not_has hs
    rw [hat] at hv
    have e := sl_inj (u := .slice none 0 0) hv (.inl rfl)
    subst e
    rw [idx_nil hno]
    exact ⟨World.ownsRow_nil _ _ _ _, fun k hk => by cases hk⟩

theorem has_seen (h : GL w A B m kt tg lt κ wb N D wl) (hinj : ∀ i j, lt (κ i) = lt (κ j) → κ i = κ j) : has D (lt (κ N)) = seen κ N N := by
  rw [Bool.eq_iff_iff, h.has_, seen_iff]
  constructor
  · rintro ⟨j, h1, h2⟩; exact ⟨j, h1, hinj j N h2⟩
  · rintro ⟨j, h1, h2⟩; exact ⟨j, h1, by rw [h2]⟩

theorem GL.push (h : GL w A B m kt tg lt κ wb N D wl) (hinj : ∀ i j, lt (κ i) = lt (κ j) → κ i = κ j) (K : Keyed Yba.prog kt) {key : Value} (hkey : keyOf Yba.prog kt key = some (lt (κ N))) {v0 v' : Value} {n0 : Nat} {xs0 : List Value}
    (hrow0 : w.ownsRow B 57 1 v0 n0 xs0) (htag0 : ∀ k, v0.ownBlock = some k → A k = (tg, some (κ N))) (hrow : w'.ownsRow B 57 1 v' ((idx κ (κ N) N).length + 1) (ptrs wb (idx κ (κ N) N) ++ [.pointer (some ⟨wb N, 0, none⟩)]))
    (hown : w'.ownsMap Yba.prog kt slElem m (N + 1) (D.put (lt (κ N)) (slD v'))) (hc : Chg (fun k => k = m ∨ v0.ownBlock = some k) w w') (hloc : v'.ownBlock = v0.ownBlock ∨ ∀ k, v'.ownBlock = some k → A' k = (tg, some (κ N)))
    (hA : ∀ k, k < w.heap.size → A' k = A k) : GL w' A' B m kt tg lt κ wb (N + 1) (D.put (lt (κ N)) (slD v')) (fun j => if κ j = κ N then v' else wl j) := by
  have hm := h.own.isMap
  have hkl := K.key hkey
  have hnew : ∀ k, v'.ownBlock = some k → A' k = (tg, some (κ N)) := fun k hk => by
    rcases hloc with h1 | h1
    · rw [h1] at hk
      rw [hA k (hrow0.lt k hk).2]
      exact htag0 k hk
    · exact h1 k hk
  have hidx : idx κ (κ N) (N + 1) = idx κ (κ N) N ++ [N] := by rw [idx, if_pos rfl]
  refine ⟨hown, by rw [hA m h.own.lt]; exact h.tagm, h.bm, fun l => ?_, fun j hj zd => ?_, ?_, fun i j hij => ?_, fun j hj => ?_, fun j k hj hk => ?_⟩
  · by_cases hl : l = lt (κ N)
    · subst hl
      rw [has_put_same hm hkl]
      simp only [true_iff]
      exact ⟨N, by omega, rfl⟩
    · rw [has_put_other hl, h.has_]
      constructor
      · rintro ⟨j, h1, h2⟩; exact ⟨j, by omega, h2⟩
      · rintro ⟨j, h1, h2⟩
        refine ⟨j, ?_, h2⟩
        rcases Nat.lt_or_ge j N with h3 | h3
        · exact h3
        · obtain rfl : j = N := by omega
          exact absurd h2.symm hl
  · by_cases hk : κ j = κ N
    · simp only [hk, if_true]
      exact atKey_put_same hm hkl _ _
    · simp only [hk, if_false]
      rw [atKey_put_other (fun e => hk (hinj _ _ e))]
      refine h.at_ j ?_ zd
      rcases Nat.lt_or_ge j N with h3 | h3
      · exact h3
      · obtain rfl : j = N := by omega
        exact absurd rfl hk
  · rw [size_put (h.own.tidy K), has_seen h hinj, dcnt, h.size_]
    split <;> omega
  · simp only [hij]
    rw [h.same i j hij]
  · by_cases hk : κ j = κ N
    · simp only [hk, if_true]
      rw [hidx]
      simpa [ptrs] using hrow
    · simp only [hk, if_false]
      have hjN : j < N := by
        rcases Nat.lt_or_ge j N with h3 | h3
        · exact h3
        · obtain rfl : j = N := by omega
          exact absurd rfl hk
      rw [idx, if_neg (fun e => hk e.symm), List.append_nil]
      refine owns_chg (h.rows j hjN) hc (fun k hk' hf => ?_)
      have ht := h.tagr j k hjN hk'
      rcases hf with hf | hf
      · rw [hf, h.tagm] at ht; simp at ht
      · rw [htag0 k hf] at ht; simp at ht; exact hk ht.symm
  · by_cases hkk : κ j = κ N
    · simp only [hkk, if_true] at hk ⊢
      exact hnew k hk
    · simp only [hkk, if_false] at hk
      have hjN : j < N := by
        rcases Nat.lt_or_ge j N with h3 | h3
        · exact h3
        · obtain rfl : j = N := by omega
          exact absurd rfl hkk
      rw [hA k ((h.rows j hjN).lt k hk).2]
      exact h.tagr j k hjN hk
end

section
variable {w w' : World} {A A' : Tags} {B m : Nat} {tg : Nat} {lt : Nat → Lit} {κ : Nat → Nat} {ps : Nat → Nat × Nat} {K N : Nat} {D : DataW Unit} {sd : Nat → SD}

theorem has_seenS (h : GS w A B m tg lt κ ps K N D sd) (hinj : ∀ i j, lt (κ i) = lt (κ j) → κ i = κ j) : has D (lt (κ K)) = seen κ K K := by
  rw [Bool.eq_iff_iff, h.has_, seen_iff]
  constructor
  · rintro ⟨j, h1, h2⟩; exact ⟨j, h1, hinj j K h2⟩
  · rintro ⟨j, h1, h2⟩; exact ⟨j, h1, by rw [h2]⟩

/-- The key is there already. -/
theorem GS.again (h : GS w A B m tg lt κ ps K N D sd) (hinj : ∀ i j, lt (κ i) = lt (κ j) → κ i = κ j) (hs : has D (lt (κ K)) = true) : GS w A B m tg lt κ ps (K + 1) N D sd := by
  obtain ⟨j0, hj0, hk0⟩ := (h.has_ _).1 hs
  have hkk := hinj j0 K hk0
  have hsd := h.same j0 K hkk
  have hsn : seen κ K K = true := by rw [← has_seenS h hinj]; exact hs
  have hcase : ∀ j, j < K + 1 → ∃ j', j' < K ∧ κ j' = κ j ∧ sd j' = sd j := fun j hj => by
    rcases Nat.lt_or_ge j K with h1 | h1
    · exact ⟨j, h1, rfl, rfl⟩
    · obtain rfl : j = K := by omega
      exact ⟨j0, hj0, hkk, hsd⟩
  refine ⟨h.own.mono (Nat.le_succ _), h.tagm, h.bm, fun l => ?_, fun j hj zd => ?_, ?_, h.same, fun j hj => ?_, fun j hj => ?_, fun j hj e c => ?_, fun j k hj hk => ?_⟩
  · rw [h.has_]
    constructor
    · rintro ⟨j, h1, h2⟩; exact ⟨j, by omega, h2⟩
    · rintro ⟨j, h1, h2⟩
      obtain ⟨j', h3, h4, _⟩ := hcase j h1
      exact ⟨j', h3, by rw [h4]; exact h2⟩
  · obtain ⟨j', h3, h4, h5⟩ := hcase j hj
    rw [← h4, ← h5]; exact h.at_ j' h3 zd
  · rw [dcnt, if_pos hsn, h.size_, Nat.add_zero]
  · obtain ⟨j', h3, h4, h5⟩ := hcase j hj
    rw [← h5]; exact h.sets j' h3
  · obtain ⟨j', h3, h4, h5⟩ := hcase j hj
    rw [← h5]; exact h.good j' h3
  · obtain ⟨j', h3, h4, h5⟩ := hcase j hj
    rw [← h4, ← h5]; exact h.mem j' h3 e c
  · obtain ⟨j', h3, h4, h5⟩ := hcase j hj
    rw [← h5] at hk
    rw [← h4]; exact h.tags j' k h3 hk

/-- A new key: an empty set in block b'. -/
theorem GS.fresh (h : GS w A B m tg lt κ ps K N D sd) (hinj : ∀ i j, lt (κ i) = lt (κ j) → κ i = κ j) (hK : Keyed Yba.prog 9) {key : Value} (hkey : keyOf Yba.prog 9 key = some (lt (κ K))) (hs : has D (lt (κ K)) = false) (hNK : N ≤ K) {b' : Nat}
    (hown : w'.ownsMap Yba.prog 9 ptElem m (K + 1) (D.put (lt (κ K)) (numD b'))) (hps : PS w' B b' (.slice none 0 0) (.slice none 0 0) []) (hc : Chg (fun k => k = m) w w') (hA : ∀ k, k < w.heap.size → A' k = A k) (hb' : A' b' = (tg, some (κ K))) :
    GS w' A' B m tg lt κ ps (K + 1) N (D.put (lt (κ K)) (numD b')) (fun j => if κ j = κ K then ⟨b', .slice none 0 0, .slice none 0 0, []⟩ else sd j) := by
  have hm := h.own.isMap
  have hkl := hK.key hkey
  have hno : ∀ j, j < K → κ j ≠ κ K := fun j hj e => by
    have := (h.has_ (lt (κ K))).2 ⟨j, hj, by rw [e]⟩
    rw [hs] at this; cases this
  have hlt : ∀ j, j < K + 1 → κ j ≠ κ K → j < K := fun j hj hk => by
    rcases Nat.lt_or_ge j K with h3 | h3
    · exact h3
    · obtain rfl : j = K := by omega
      exact absurd rfl hk
  refine ⟨hown, by rw [hA m h.own.lt]; exact h.tagm, h.bm, fun l => ?_, fun j hj zd => ?_, ?_, fun i j hij => ?_, fun j hj => ?_, fun j hj => ?_, fun j hj e c => ?_, fun j k hj hk => ?_⟩
  · by_cases hl : l = lt (κ K)
    · subst hl
      rw [has_put_same hm hkl]
      simp only [true_iff]
      exact ⟨K, by omega, rfl⟩
    · rw [has_put_other hl, h.has_]
      constructor
      · rintro ⟨j, h1, h2⟩; exact ⟨j, by omega, h2⟩
      · rintro ⟨j, h1, h2⟩
        refine ⟨j, ?_, h2⟩
        rcases Nat.lt_or_ge j K with h3 | h3
        · exact h3
        · obtain rfl : j = K := by omega
          exact absurd h2.symm hl
  · by_cases hk : κ j = κ K
    · simp only [hk, if_true]
      exact atKey_put_same hm hkl _ _
    · simp only [hk, if_false]
      rw [atKey_put_other (fun e => hk (hinj _ _ e))]
      exact h.at_ j (hlt j hj hk) zd
  · rw [size_put (h.own.tidy hK), hs, dcnt, h.size_, ← has_seenS h hinj, hs]
    simp
  · simp only [hij]
    rw [h.same i j hij]
  · by_cases hk : κ j = κ K
    · simp only [hk, if_true]; exact hps
    · simp only [hk, if_false]
      refine (h.sets j (hlt j hj hk)).chg hc (fun k hk' hf => ?_)
      have ht := h.tags j k (hlt j hj hk) hk'
      rw [hf, h.tagm] at ht
      simp at ht
  · by_cases hk : κ j = κ K
    · simp only [hk, if_true]; exact ⟨List.Pairwise.nil, by simp⟩
    · simp only [hk, if_false]; exact h.good j (hlt j hj hk)
  · by_cases hk : κ j = κ K
    · simp only [hk, if_true]
      constructor
      · rintro ⟨t, ht, _⟩; simp at ht
      · rintro ⟨i, h1, h2, _⟩; exact absurd h2 (hno i (by omega))
    · simp only [hk, if_false]; exact h.mem j (hlt j hj hk) e c
  · by_cases hkk : κ j = κ K
    · simp only [hkk, if_true] at hk ⊢
      rcases hk with hk | hk | hk
      · rw [hk]; exact hb'
      · cases hk
      · cases hk
    · simp only [hkk, if_false] at hk
      rw [hA k ((h.sets j (hlt j hj hkk)).foot_lt hk).2]
      exact h.tags j k (hlt j hj hkk) hk

/-- The set of event N takes event N's position. -/
theorem GS.add (h : GS w A B m tg lt κ ps K N D sd) (hNK : N < K) {r : Ending} (hr : AddRes B (sd N).b (sd N).bv (sd N).sv (sd N).L (ps N).1 (ps N).2 w r w') (hA : ∀ k, k < w.heap.size → A' k = A k) (hnew : ∀ k, w.heap.size ≤ k → A' k = (tg, some (κ N))) :
    ∃ sd', GS w' A' B m tg lt κ ps K (N + 1) D sd' ∧ Chg (fun k => (A k).1 = tg) w w' := by
  rcases hr with ⟨hmem, _, hb⟩ | ⟨hmem, _, L', hG', hm', bv', sv', hps, hc, hf⟩
  · have hcb : Chg (fun _ => False) w w' := Chg.of_below hb
    have hk := h.kept (A' := A') hcb (fun k hk => hk.elim) hA
    refine ⟨sd, ⟨hk.own, hk.tagm, hk.bm, hk.has_, hk.at_, hk.size_, hk.same, hk.sets, hk.good, fun j hj e c => ?_, hk.tags⟩, hcb.mono (fun _ hx => hx.elim)⟩
    rw [h.mem j hj]
    constructor
    · rintro ⟨i, h1, h2⟩; exact ⟨i, by omega, h2⟩
    · rintro ⟨i, h1, h2, h3⟩
      rcases Nat.lt_or_ge i N with h4 | h4
      · exact ⟨i, h4, h2, h3⟩
      · obtain rfl : i = N := by omega
        obtain ⟨i', h5, h6, h7⟩ := (h.mem i hNK _ _).1 hmem
        exact ⟨i', h5, h6.trans h2, h7.trans h3⟩
  · have hFt : ∀ k, Foot (sd N).b (sd N).bv (sd N).sv k → A k = (tg, some (κ N)) := fun k hk => h.tags N k hNK hk
    refine ⟨fun j => if κ j = κ N then ⟨(sd N).b, bv', sv', L'⟩ else sd j, ⟨?_, ?_, h.bm, h.has_, fun j hj zd => ?_, h.size_, fun i j hij => ?_, fun j hj => ?_, fun j hj => ?_, fun j hj e c => ?_, fun j k hj hk => ?_⟩, hc.mono (fun k hk => .inl (by rw [hFt k hk]))⟩
    · refine map_chg h.own hc (fun hk => ?_)
      have := hFt m hk
      rw [h.tagm] at this
      simp at this
    · rw [hA m h.own.lt]; exact h.tagm
    · by_cases hk : κ j = κ N
      · simp only [hk, if_true]
        rw [← h.same j N hk, ← hk]; exact h.at_ j hj zd
      · simp only [hk, if_false]; exact h.at_ j hj zd
    · simp only [hij]
      rw [h.same i j hij]
    · by_cases hk : κ j = κ N
      · simp only [hk, if_true]; exact hps
      · simp only [hk, if_false]
        refine (h.sets j hj).chg hc (fun k hk' hf' => ?_)
        have h1 := h.tags j k hj hk'
        rw [hFt k hf'] at h1
        simp at h1
        exact hk h1.symm
    · by_cases hk : κ j = κ N
      · simp only [hk, if_true]; exact hG'
      · simp only [hk, if_false]; exact h.good j hj
    · by_cases hk : κ j = κ N
      · simp only [hk, if_true]
        rw [hm', h.mem N hNK]
        constructor
        · rintro (⟨i, h1, h2, h3⟩ | ⟨h1, h2⟩)
          · exact ⟨i, by omega, h2, h3⟩
          · exact ⟨N, by omega, rfl, by rw [h1, h2]⟩
        · rintro ⟨i, h1, h2, h3⟩
          rcases Nat.lt_or_ge i N with h4 | h4
          · exact .inl ⟨i, h4, h2, h3⟩
          · obtain rfl : i = N := by omega
            exact .inr (by rw [h3]; exact ⟨rfl, rfl⟩)
      · simp only [hk, if_false]
        rw [h.mem j hj]
        constructor
        · rintro ⟨i, h1, h2⟩; exact ⟨i, by omega, h2⟩
        · rintro ⟨i, h1, h2, h3⟩
          rcases Nat.lt_or_ge i N with h4 | h4
          · exact ⟨i, h4, h2, h3⟩
          · obtain rfl : i = N := by omega
            exact absurd h2.symm hk
    · by_cases hkk : κ j = κ N
      · simp only [hkk, if_true] at hk ⊢
        rcases hf k hk with h1 | h1
        · rw [hA k ((h.sets N hNK).foot_lt h1).2]; exact hFt k h1
        · exact hnew k h1
      · simp only [hkk, if_false] at hk
        rw [hA k ((h.sets j hj).foot_lt hk).2]
        exact h.tags j k hj hk
end
end Go.Proofs.Ybulkdaie.Scr
