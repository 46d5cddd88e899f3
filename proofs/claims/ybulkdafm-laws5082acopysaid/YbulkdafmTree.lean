/-
  The tree that the steps build: the pure side.
-/
import Derived.Test.YbulkdafmClone
namespace Go.Proofs.Ybulkdafm
open Go.RowKit Go.Maps
set_option linter.unusedVariables false
set_option linter.unusedSimpArgs false

/-- How many nodes there are behind i steps. -/
def cnt (leaf : Nat → Bool) : Nat → Nat
  | 0 => 1
  | i + 1 => if leaf i then cnt leaf i else cnt leaf i + 1
theorem cnt_pos (leaf : Nat → Bool) : ∀ i, 0 < cnt leaf i
  | 0 => Nat.one_pos
  | i + 1 => by
    have := cnt_pos leaf i
    unfold cnt
    split <;> omega
theorem cnt_le (leaf : Nat → Bool) : ∀ i, cnt leaf i ≤ i + 1
  | 0 => Nat.le_refl _
  | i + 1 => by
    have := cnt_le leaf i
    unfold cnt
    split <;> omega
theorem cnt_mono (leaf : Nat → Bool) (i : Nat) : cnt leaf i ≤ cnt leaf (i + 1) := by
  conv => rhs; unfold cnt
  split <;> omega
theorem cnt_mono_le (leaf : Nat → Bool) {i j : Nat} (h : i ≤ j) : cnt leaf i ≤ cnt leaf j := by
  induction j with
  | zero => obtain rfl : i = 0 := by omega
            exact Nat.le_refl _
  | succ j ih =>
    by_cases e : i = j + 1
    · rw [e]; exact Nat.le_refl _
    · exact Nat.le_trans (ih (by omega)) (cnt_mono leaf j)

/-- The name of step k, as a key. -/
def nm (key : Nat → ByteArray) (k : Nat) : Lit := .string (nameOf (key k) k).data.toList
theorem nm_inj {key : Nat → ByteArray} {k k' : Nat} (h : nm key k = nm key k') (hk : k < 2000) (hk' : k' < 2000) : k = k' := by
  simp only [nm, nameOf, Lit.string.injEq] at h
  exact name_inj (by omega) (by omega) h
theorem nm_key (key : Nat → ByteArray) (k : Nat) : WideAt.IsKeyLit (nm key k) := trivial

/-- What the nodes hold behind i steps. -/
structure TP (par : Nat → Nat) (key : Nat → ByteArray) (leaf : Nat → Bool) (i : Nat) (bs : List Nat) (Dm : Nat → DataW Unit) (zs : List Nat) : Prop where
  len : bs.length = cnt leaf i
  zlen : zs.length = cnt leaf i
  up : bs.Pairwise (· < ·)
  tidy : ∀ b ∈ bs, Tidy (Dm b)
  kids : ∀ b kl, b ∈ bs → has (Dm b) kl = true → ∃ o, (∀ zd, (Dm b).atKey kl zd = sub o) ∧ ∀ c, o = some c → c ∈ bs ∧ b < c
  names : ∀ b kl, b ∈ bs → has (Dm b) kl = true → ∃ k, k < i ∧ kl = nm key k
  entry : ∀ k, k < i → ∃ b, bs[par k % cnt leaf k]? = some b ∧ ∀ zd, (Dm b).atKey (nm key k) zd = sub (if leaf k then none else bs[cnt leaf k]?)
  sizes : ∀ (j b : Nat), bs[j]? = some b → zs[j]? = some (Maps.size (Dm b))
  small : ∀ b, b ∈ bs → Maps.size (Dm b) ≤ i

def upd (Dm : Nat → DataW Unit) (b : Nat) (D : DataW Unit) : Nat → DataW Unit := fun x => if x = b then D else Dm x
theorem upd_same (Dm : Nat → DataW Unit) (b : Nat) (D : DataW Unit) : upd Dm b D b = D := by simp [upd]
theorem upd_other (Dm : Nat → DataW Unit) {b x : Nat} (D : DataW Unit) (h : x ≠ b) : upd Dm b D x = Dm x := by simp [upd, h]

theorem up_inj {bs : List Nat} (h : bs.Pairwise (· < ·)) {j j' b : Nat} (h1 : bs[j]? = some b) (h2 : bs[j']? = some b) : j = j' := by
  obtain ⟨l1, e1⟩ := List.getElem?_eq_some_iff.1 h1
  obtain ⟨l2, e2⟩ := List.getElem?_eq_some_iff.1 h2
  rcases Nat.lt_trichotomy j j' with h' | h' | h'
  · have := List.pairwise_iff_getElem.1 h j j' l1 l2 h'
    omega
  · exact h'
  · have := List.pairwise_iff_getElem.1 h j' j l2 l1 h'
    omega

theorem TP.start (par : Nat → Nat) (key : Nat → ByteArray) (leaf : Nat → Bool) (b : Nat) : TP par key leaf 0 [b] (fun _ => .map []) [0] := by
  refine ⟨rfl, rfl, by simp, fun _ _ => tidy_empty, (fun b kl _ h => by cases h), (fun b kl _ h => by cases h), (fun k h => by omega), fun j b' h => ?_, fun b _ => Nat.le_refl _⟩
  cases j with
  | zero => rfl
  | succ j => simp at h

section
variable {par : Nat → Nat} {key : Nat → ByteArray} {leaf : Nat → Bool} {i : Nat} {bs : List Nat} {Dm : Nat → DataW Unit} {zs : List Nat}

theorem TP.fresh (h : TP par key leaf i bs Dm zs) (hi : i < 2000) {b : Nat} (hb : b ∈ bs) : has (Dm b) (nm key i) = false := by
  cases hh : has (Dm b) (nm key i) with
  | false => rfl
  | true =>
    obtain ⟨k, hk, e⟩ := h.names b _ hb hh
    have := nm_inj e hi (by omega)
    omega

/-- A step that lays a leaf. -/
theorem TP.leafStep (h : TP par key leaf i bs Dm zs) (hi : i < 2000) (hl : leaf i = true) {b : Nat} (hb : bs[par i % cnt leaf i]? = some b) :
    TP par key leaf (i + 1) bs (upd Dm b ((Dm b).put (nm key i) (sub none))) (zs.set (par i % cnt leaf i) (Maps.size (Dm b) + 1)) := by
  have hc : cnt leaf (i + 1) = cnt leaf i := by simp [cnt, hl]
  have hbm : b ∈ bs := List.mem_of_getElem? hb
  have hmap := (h.tidy b hbm).isMap
  have hfr := h.fresh hi hbm
  have hne : ∀ k, k < i → nm key k ≠ nm key i := fun k hk e => by have := nm_inj e (by omega) hi; omega
  have hsz : Maps.size ((Dm b).put (nm key i) (sub none)) = Maps.size (Dm b) + 1 := by rw [size_put (h.tidy b hbm), hfr]; rfl
  refine ⟨by rw [hc]; exact h.len, by rw [hc, List.length_set]; exact h.zlen, h.up, fun x hx => ?_, fun x kl hx hh => ?_, fun x kl hx hh => ?_, fun k hk => ?_, fun j x hx => ?_, fun x hx => ?_⟩
  · by_cases e : x = b
    · subst e; rw [upd_same]; exact (h.tidy x hx).put (nm_key key i) _
    · rw [upd_other _ _ e]; exact h.tidy x hx
  · by_cases e : x = b
    · subst e
      rw [upd_same] at hh ⊢
      by_cases ek : kl = nm key i
      · subst ek
        exact ⟨none, fun zd => atKey_put_same hmap (nm_key key i) _ _, fun c hc => by cases hc⟩
      · rw [has_put_other ek] at hh
        obtain ⟨o, h1, h2⟩ := h.kids x kl hx hh
        exact ⟨o, fun zd => by rw [atKey_put_other ek, h1], h2⟩
    · rw [upd_other _ _ e] at hh ⊢; exact h.kids x kl hx hh
  · by_cases e : x = b
    · subst e
      rw [upd_same] at hh
      by_cases ek : kl = nm key i
      · exact ⟨i, by omega, ek⟩
      · rw [has_put_other ek] at hh
        obtain ⟨k, h1, h2⟩ := h.names x kl hx hh
        exact ⟨k, by omega, h2⟩
    · rw [upd_other _ _ e] at hh
      obtain ⟨k, h1, h2⟩ := h.names x kl hx hh
      exact ⟨k, by omega, h2⟩
  · by_cases e : k = i
    · subst e
      refine ⟨b, hb, fun zd => ?_⟩
      rw [upd_same, hl]
      exact atKey_put_same hmap (nm_key key k) _ _
    · obtain ⟨x, h1, h2⟩ := h.entry k (by omega)
      refine ⟨x, h1, fun zd => ?_⟩
      by_cases ex : x = b
      · subst ex
        rw [upd_same, atKey_put_other (hne k (by omega)), h2]
      · rw [upd_other _ _ ex, h2]
  · by_cases e : j = par i % cnt leaf i
    · subst e
      rw [hb] at hx
      cases hx
      rw [upd_same, hsz, List.getElem?_set_self]
      rw [h.zlen]
      exact Nat.mod_lt _ (cnt_pos leaf i)
    · have ex : x ≠ b := fun ex => e (up_inj h.up (ex ▸ hx) hb)
      rw [upd_other _ _ ex, List.getElem?_set_ne (fun h' => e h'.symm)]
      exact h.sizes j x hx
  · by_cases e : x = b
    · subst e; rw [upd_same, hsz]; have := h.small x hx; omega
    · rw [upd_other _ _ e]; have := h.small x hx; omega

/-- A step that lays a new node at block c. -/
theorem TP.nodeStep (h : TP par key leaf i bs Dm zs) (hi : i < 2000) (hl : leaf i = false) {b c : Nat} (hb : bs[par i % cnt leaf i]? = some b) (hcb : ∀ x ∈ bs, x < c) :
    TP par key leaf (i + 1) (bs ++ [c]) (upd (upd Dm c (.map [])) b ((Dm b).put (nm key i) (sub (some c)))) (zs.set (par i % cnt leaf i) (Maps.size (Dm b) + 1) ++ [0]) := by
  have hc : cnt leaf (i + 1) = cnt leaf i + 1 := by simp [cnt, hl]
  have hbm : b ∈ bs := List.mem_of_getElem? hb
  have hmap := (h.tidy b hbm).isMap
  have hfr := h.fresh hi hbm
  have hbc := hcb b hbm
  have hne : ∀ k, k < i → nm key k ≠ nm key i := fun k hk e => by have := nm_inj e (by omega) hi; omega
  have hsz : Maps.size ((Dm b).put (nm key i) (sub (some c))) = Maps.size (Dm b) + 1 := by rw [size_put (h.tidy b hbm), hfr]; rfl
  have hold : ∀ x, x ∈ bs → x ≠ b → upd (upd Dm c (.map [])) b ((Dm b).put (nm key i) (sub (some c))) x = Dm x := fun x hx hxb => by
    rw [upd_other _ _ hxb, upd_other _ _ (by have := hcb x hx; omega)]
  have hnew : upd (upd Dm c (.map [])) b ((Dm b).put (nm key i) (sub (some c))) c = .map [] := by
    rw [upd_other _ _ (by omega), upd_same]
  have hget : ∀ j x, bs[j]? = some x → (bs ++ [c])[j]? = some x := fun j x hx => by
    rw [List.getElem?_append_left (List.getElem?_eq_some_iff.1 hx).1]; exact hx
  have hmem : ∀ x, x ∈ bs ++ [c] → x ∈ bs ∨ x = c := fun x hx => by simpa using hx
  refine ⟨by simp [hc, h.len], by simp [hc, h.zlen], ?_, fun x hx => ?_, fun x kl hx hh => ?_, fun x kl hx hh => ?_, fun k hk => ?_, fun j x hx => ?_, fun x hx => ?_⟩
  · rw [List.pairwise_append]
    exact ⟨h.up, by simp, fun a ha c' hc' => by simp at hc'; subst hc'; exact hcb a ha⟩
  · rcases hmem x hx with hx | rfl
    · by_cases e : x = b
      · subst e; rw [upd_same]; exact (h.tidy x hx).put (nm_key key i) _
      · rw [hold x hx e]; exact h.tidy x hx
    · rw [hnew]; exact tidy_empty
  · rcases hmem x hx with hx | rfl
    · by_cases e : x = b
      · subst e
        rw [upd_same] at hh ⊢
        by_cases ek : kl = nm key i
        · subst ek
          exact ⟨some c, fun zd => atKey_put_same hmap (nm_key key i) _ _, fun c' hc' => by cases hc'; exact ⟨by simp, hbc⟩⟩
        · rw [has_put_other ek] at hh
          obtain ⟨o, h1, h2⟩ := h.kids x kl hx hh
          exact ⟨o, fun zd => by rw [atKey_put_other ek, h1], fun c' hc' => ⟨by simp [(h2 c' hc').1], (h2 c' hc').2⟩⟩
      · rw [hold x hx e] at hh ⊢
        obtain ⟨o, h1, h2⟩ := h.kids x kl hx hh
        exact ⟨o, h1, fun c' hc' => ⟨by simp [(h2 c' hc').1], (h2 c' hc').2⟩⟩
    · rw [hnew] at hh; cases hh
  · rcases hmem x hx with hx | rfl
    · by_cases e : x = b
      · subst e
        rw [upd_same] at hh
        by_cases ek : kl = nm key i
        · exact ⟨i, by omega, ek⟩
        · rw [has_put_other ek] at hh
          obtain ⟨k, h1, h2⟩ := h.names x kl hx hh
          exact ⟨k, by omega, h2⟩
      · rw [hold x hx e] at hh
        obtain ⟨k, h1, h2⟩ := h.names x kl hx hh
        exact ⟨k, by omega, h2⟩
    · rw [hnew] at hh; cases hh
  · by_cases e : k = i
    · subst e
      refine ⟨b, hget _ _ hb, fun zd => ?_⟩
      rw [upd_same, hl]
      have : (bs ++ [c])[cnt leaf k]? = some c := by rw [← h.len]; simp
      simp only [this, Bool.false_eq_true, if_false]
      exact atKey_put_same hmap (nm_key key k) _ _
    · obtain ⟨x, h1, h2⟩ := h.entry k (by omega)
      refine ⟨x, hget _ _ h1, fun zd => ?_⟩
      have hlen := h.len
      have e2 : (if leaf k then none else (bs ++ [c])[cnt leaf k]?) = (if leaf k then none else bs[cnt leaf k]?) := by
        cases hk : leaf k with
        | true => rfl
        | false =>
          have h3 : cnt leaf (k + 1) = cnt leaf k + 1 := by simp [cnt, hk]
          have h4 := cnt_mono_le leaf (show k + 1 ≤ i by omega)
          simp only [Bool.false_eq_true, if_false]
          rw [List.getElem?_append_left (by omega)]
      rw [e2]
      by_cases ex : x = b
      · subst ex
        rw [upd_same, atKey_put_other (hne k (by omega)), h2]
      · rw [hold x (List.mem_of_getElem? h1) ex, h2]
  · by_cases hj : j < bs.length
    · rw [List.getElem?_append_left hj] at hx
      rw [List.getElem?_append_left (by rw [List.length_set, h.zlen, ← h.len]; exact hj)]
      by_cases e : j = par i % cnt leaf i
      · subst e
        rw [hb] at hx
        cases hx
        rw [upd_same, hsz, List.getElem?_set_self]
        rw [h.zlen]
        exact Nat.mod_lt _ (cnt_pos leaf i)
      · have ex : x ≠ b := fun ex => e (up_inj h.up (ex ▸ hx) hb)
        rw [hold x (List.mem_of_getElem? hx) ex, List.getElem?_set_ne (fun h' => e h'.symm)]
        exact h.sizes j x hx
    · have hlt := (List.getElem?_eq_some_iff.1 hx).1
      simp at hlt
      obtain rfl : j = bs.length := by omega
      rw [List.getElem?_append_right (Nat.le_refl _)] at hx
      simp at hx
      subst hx
      rw [hnew, List.getElem?_append_right (by rw [List.length_set, h.zlen, ← h.len]; exact Nat.le_refl _)]
      simp [h.zlen, h.len, Maps.size]
  · rcases hmem x hx with hx | rfl
    · by_cases e : x = b
      · subst e; rw [upd_same, hsz]; have := h.small x hx; omega
      · rw [hold x hx e]; have := h.small x hx; omega
    · rw [hnew]; exact Nat.zero_le _

/-- All of it: what clone asks. -/
theorem TP.src {w : World} (h : TP par key leaf i bs Dm zs) (ho : ∀ b ∈ bs, Own w b 2000 (Dm b)) : Src w (· ∈ bs) Dm := ⟨ho, h.kids⟩

/-- Two maps with the same keys have the same size. -/
theorem size_alike {D D' : DataW Unit} (h : Canon D) (h' : Canon D') (hh : ∀ kl, has D' kl = has D kl) : Maps.size D' = Maps.size D := by
  obtain ⟨es, rfl, s1, k1⟩ := h
  obtain ⟨es', rfl, s2, k2⟩ := h'
  have key : ∀ (l l' : List (Lit × DataW Unit)), (∀ p ∈ l, WideAt.IsKeyLit p.1) → (∀ kl, has (.map l') kl = has (.map l) kl) → ∀ p, p ∈ l.map (fun p => (p.1, DataW.nil (H := Unit))) → p ∈ l'.map (fun p => (p.1, DataW.nil (H := Unit))) := by
    intro l l' hk hh p hp
    obtain ⟨q, hq, rfl⟩ := List.mem_map.1 hp
    have : has (.map l') q.1 = true := by
      rw [hh]
      exact List.any_eq_true.2 ⟨q, hq, WideAt.sameKey_self (hk q hq)⟩
    obtain ⟨q', hq', e⟩ := List.any_eq_true.1 this
    exact List.mem_map.2 ⟨q', hq', by rw [WideAt.sameKey_eq e]⟩
  have e := eq_of_mem_rising (l₁ := es'.map (fun p => (p.1, DataW.nil (H := Unit)))) (l₂ := es.map (fun p => (p.1, DataW.nil (H := Unit)))) (by rw [List.pairwise_map]; exact s2) (by rw [List.pairwise_map]; exact s1)
    (fun p => ⟨key es' es k2 (fun kl => (hh kl).symm) p, key es es' k1 hh p⟩)
  have := congrArg List.length e
  simpa [Maps.size] using this

end
end Go.Proofs.Ybulkdafm
