/-
  extend and markOf, in one contract each, over the list of the bits.
-/
import Derived.Test.YbulkdaieExtFT
import Derived.Test.YbulkdaieExtTF
import Derived.Test.YbulkdaieExtTT
namespace Go.Proofs.Ybulkdaie
open Go.RowKit
set_option linter.unusedVariables false

/-- The run in block B holds the marks that the bits spell, from f on. -/
def St (w : World) (B G lo : Nat) (ep f : Int) (bs : List Bool) : Prop :=
  ∃ v, RowAt w B 70 (runCells ep lo (lo + bs.length - 1) f (wrap64 (f + (bs.count true : Int))) v) ∧
    (Words w G v bs ∨ (v = .slice none 0 0 ∧ (bs = List.replicate bs.length false ∨ bs = false :: List.replicate (bs.length - 1) true)))

theorem wrap_succ (f : Int) (c : Nat) : wrap64 (wrap64 (f + (c : Int)) + 1) = wrap64 (f + ((c + 1 : Nat) : Int)) := by
  unfold wrap64; omega
theorem wrap_ne (f : Int) (c : Nat) (hc : c ≤ 4000) (h1 : -9223372036854775808 ≤ f) (h2 : f ≤ 9223372036854775807) : (f != wrap64 (f + (c : Int))) = decide (c ≠ 0) := by
  by_cases h : c = 0
  · subst h
    simp [IntWalk.wrap64_in f ⟨h1, h2⟩]
  · have : f ≠ wrap64 (f + (c : Int)) := by unfold wrap64; omega
    simp [h, this]
theorem wrap_next (l : Int) (h1 : -9223372036854775808 ≤ l) (h2 : l ≤ 9223372036854775807) : (l == wrap64 (l + 1)) = false := by
  have : l ≠ wrap64 (l + 1) := by unfold wrap64; omega
  simp [this]
theorem wrap_range (n : Int) : -9223372036854775808 ≤ wrap64 n ∧ wrap64 n ≤ 9223372036854775807 := by unfold wrap64; omega

theorem count_step (bs : List Bool) (rs : Bool) (d : Nat) : (bs ++ rs :: List.replicate d false).count true = bs.count true + rs.toNat := by
  rw [List.count_append, List.count_cons]
  cases rs <;> simp [List.count_replicate]

theorem extend_any (B G lo d : Nat) (ep f : Int) (bs : List Bool) (w : World) (hs : St w B G lo ep f bs) (hBG : B < G) (hG : G < w.heap.size) (hb0 : 0 < bs.length) (hb1 : bs.take 1 = [false]) (hb2 : bs.length ≤ 3000)
    (hd : 1 ≤ d) (hd4 : d ≤ 4) (hlo : (lo : Int) + 3010 < 18446744073709551615) (h1 : -9223372036854775808 ≤ f) (h2 : f ≤ 9223372036854775807) (rs : Bool) :
    Calls Yba.prog 11 #[.pointer (some ⟨B, 0, none⟩), .int .u64 (((lo + bs.length - 1 : Nat) : Int) + (d : Int)), .int .i64 (if rs then wrap64 (wrap64 (f + (bs.count true : Int)) + 1) else wrap64 (f + (bs.count true : Int)))] w
      fun e w' => e = .returned (.bool true) ∧ St w' B G lo ep f (bs ++ rs :: List.replicate (d - 1) false) ∧ Frm B G w w' := by
  obtain ⟨v, hr, hv⟩ := hs
  have hcl : bs.count true ≤ 3000 := Nat.le_trans List.count_le_length hb2
  have hlr := wrap_range (f + (bs.count true : Int))
  have hhi : ((lo + bs.length - 1 : Nat) : Int) + 4 < 18446744073709551615 := by omega
  have hbs : (lo + bs.length - 1) + 1 = lo + bs.length := by omega
  obtain ⟨m, hm⟩ : ∃ m, m = (if rs then wrap64 (wrap64 (f + (bs.count true : Int)) + 1) else wrap64 (f + (bs.count true : Int))) := ⟨_, rfl⟩
  rw [← hm]
  have hm1 : (m == wrap64 (wrap64 (f + (bs.count true : Int)) + 1)) = rs := by
    rw [hm]
    cases rs
    · exact wrap_next _ hlr.1 hlr.2
    · simp
  have hm2 : rs = false → (m != wrap64 (f + (bs.count true : Int))) = false := by
    rintro rfl
    rw [hm]; simp
  have hml : m = wrap64 (f + ((bs ++ rs :: List.replicate (d - 1) false).count true : Int)) := by
    rw [hm, count_step]
    cases rs
    · simp
    · simp only [if_true, Bool.toNat_true]; exact wrap_succ _ _
  have hlen : (bs ++ rs :: List.replicate (d - 1) false).length = bs.length + d := by simp; omega
  have hhi2 : lo + bs.length - 1 + d = lo + (bs ++ rs :: List.replicate (d - 1) false).length - 1 := by rw [hlen]; omega
  -- what the slow ways leave
  have slow : ∀ e w', (e = Ending.returned (.bool true) ∧ ∃ v', RowAt w' B 70 (runCells ep lo (lo + bs.length - 1 + d) f m v') ∧ Words w' G v' (bs ++ rs :: List.replicate (d - 1) false) ∧ Frm B G w w') →
      (e = Ending.returned (.bool true) ∧ St w' B G lo ep f (bs ++ rs :: List.replicate (d - 1) false) ∧ Frm B G w w') := by
    rintro e w' ⟨rfl, v', hr', hw', hf'⟩
    refine ⟨rfl, ⟨v', ?_, .inl hw'⟩, hf'⟩
    rw [← hml, ← hhi2]; exact hr'
  rcases hv with hv | ⟨rfl, hv⟩
  · exact (ext_words B G lo (lo + bs.length - 1) d ep f _ m v bs w hr hBG hG hbs hb2 hd hd4 hhi rs hm1 hm2 hv).mono slow
  · have h3 := wrap_ne f (bs.count true) (by omega) h1 h2
    have h4 : (((lo + bs.length - 1 : Nat) : Int) + (d : Int) == ((lo + bs.length - 1 : Nat) : Int) + 1) = decide (d = 1) := by
      rw [Bool.eq_iff_iff]; simp; omega
    have hsg : ((lo : Int) == ((lo + bs.length - 1 : Nat) : Int)) = decide (bs.length = 1) := by
      rw [Bool.eq_iff_iff]; simp; omega
    have hones : bs.count true ≠ 0 → bs = false :: List.replicate (bs.length - 1) true := by
      intro hc
      rcases hv with h | h
      · rw [h] at hc; simp [List.count_replicate] at hc
      · exact h
    have hnone : bs.count true = 0 → bs = List.replicate bs.length false := by
      intro hc
      rcases hv with h | h
      · exact h
      · rw [h] at hc
        simp at hc
        obtain ⟨n, hn⟩ : ∃ n, bs.length = n + 1 := ⟨bs.length - 1, by omega⟩
        have : n = 0 := by omega
        subst this
        rw [hn] at h ⊢
        exact h
    have hone1 : bs.length = 1 → bs.count true = 0 := by
      intro h
      obtain ⟨b, rfl⟩ := List.length_eq_one_iff.1 h
      simp at hb1
      subst hb1; rfl
    cases hok : (rs && decide (d = 1) && (decide (bs.length = 1) || decide (bs.count true ≠ 0)) || !rs && (decide (bs.length = 1) || !decide (bs.count true ≠ 0)))
    · cases rs
      · -- not rising now, but it rose before
        have hc : bs.count true ≠ 0 := by simp at hok; exact hok.2
        have h3' : (f != wrap64 (f + (bs.count true : Int))) = true := by rw [h3]; simp [hc]
        refine (ext_make_f_t B G lo (lo + bs.length - 1) d ep f _ m bs w hr hBG hG hbs hb0 hb2 hd hd4 hhi _ _ hm1 (hm2 rfl) hsg h3' h4 ?_ hb1 ?_).mono slow
        · simpa [hc] using hok
        · intro k hk1 hk
          have e := hones hc
          rw [e] at hk ⊢
          obtain ⟨k', rfl⟩ : ∃ k', k = k' + 1 := ⟨k - 1, by omega⟩
          simp at hk
          simp only [List.take_succ_cons, List.take_replicate, List.cons_append]
          rw [Nat.min_eq_left (by omega), Nat.min_eq_left (by omega), List.replicate_succ']
      · by_cases hc : bs.count true = 0
        · have h3' : (f != wrap64 (f + (bs.count true : Int))) = false := by rw [h3]; simp [hc]
          refine (ext_make_t_f B G lo (lo + bs.length - 1) d ep f _ m bs w hr hBG hG hbs hb0 hb2 hd hd4 hhi _ _ hm1 hsg h3' h4 ?_ hb1 ?_).mono slow
          · simpa [hc] using hok
          · intro b hb
            rw [hnone hc] at hb
            exact (List.mem_replicate.1 hb).2
        · have h3' : (f != wrap64 (f + (bs.count true : Int))) = true := by rw [h3]; simp [hc]
          refine (ext_make_t_t B G lo (lo + bs.length - 1) d ep f _ m bs w hr hBG hG hbs hb0 hb2 hd hd4 hhi _ _ hm1 hsg h3' h4 ?_ hb1 ?_).mono slow
          · simpa [hc] using hok
          · intro k hk1 hk
            have e := hones hc
            rw [e] at hk ⊢
            obtain ⟨k', rfl⟩ : ∃ k', k = k' + 1 := ⟨k - 1, by omega⟩
            simp at hk
            simp only [List.take_succ_cons, List.take_replicate, List.cons_append]
            rw [Nat.min_eq_left (by omega), Nat.min_eq_left (by omega), List.replicate_succ']
    · refine (ext_keep B G lo (lo + bs.length - 1) d ep f _ m w hr rs _ _ _ hm1 hm2 hsg h3 h4 hok hhi).mono ?_
      rintro e w' ⟨rfl, hr', hf'⟩
      refine ⟨rfl, ⟨_, ?_, .inr ⟨rfl, ?_⟩⟩, hf'⟩
      · rw [← hml, ← hhi2]; exact hr'
      · rw [hlen]
        cases rs
        · left
          have hc : bs.count true = 0 := by
            simp at hok
            rcases hok with h | h
            · exact hone1 h
            · exact h
          obtain ⟨e, rfl⟩ : ∃ e, d = e + 1 := ⟨d - 1, by omega⟩
          have := hnone hc
          rw [show bs ++ false :: List.replicate (e + 1 - 1) false = bs ++ List.replicate (e + 1) false from rfl]
          rw [this]
          simp [List.replicate_append_replicate]
        · right
          simp at hok
          obtain ⟨rfl, h⟩ := hok
          obtain ⟨n, hn⟩ : ∃ n, bs.length = n + 1 := ⟨bs.length - 1, by omega⟩
          have e : bs = false :: List.replicate n true := by
            rcases h with h | h
            · have := hnone (hone1 h)
              rw [h] at this hn
              have : n = 0 := by omega
              subst this
              assumption
            · have := hones h
              rw [hn] at this
              exact this
          rw [hn, e]
          simp [List.replicate_succ']

theorem markOf_any (B G lo k : Nat) (ep f : Int) (bs : List Bool) (w : World) (hs : St w B G lo ep f bs) (hk : k < bs.length) (hb2 : bs.length ≤ 3000) (hlo : (lo : Int) + 3010 < 18446744073709551615)
    (h1 : -9223372036854775808 ≤ f) (h2 : f ≤ 9223372036854775807) :
    Calls Yba.prog 12 #[.pointer (some ⟨B, 0, none⟩), .int .u64 ((lo : Int) + (k : Int))] w fun e w' => e = .returned (.int .i64 (wrap64 (f + ((bs.take (k + 1)).count true : Int)))) ∧ ∃ n, w' = w.drewN n := by
  obtain ⟨v, hr, hv⟩ := hs
  have hcl : bs.count true ≤ 3000 := Nat.le_trans List.count_le_length hb2
  rcases hv with hv | ⟨rfl, hv⟩
  · exact markOf_words B G lo _ k ep f _ v bs w hr hv (by omega) hk
  · by_cases hc : bs.count true = 0
    · have hc2 : (bs.take (k + 1)).count true = 0 := by
        have := List.Sublist.count_le (a := true) (List.take_sublist (k + 1) bs)
        omega
      have e1 : wrap64 (f + (bs.count true : Int)) = f := by rw [hc]; simpa using IntWalk.wrap64_in f ⟨h1, h2⟩
      rw [e1] at hr
      refine (markOf_flat B lo _ k ep f w hr (by omega)).mono ?_
      rintro e w' ⟨rfl, hw'⟩
      refine ⟨ret_int ?_, hw'⟩
      rw [hc2]
      simpa using (IntWalk.wrap64_in f ⟨h1, h2⟩).symm
    · have e : bs = false :: List.replicate (bs.length - 1) true := by
        rcases hv with h | h
        · rw [h] at hc; simp [List.count_replicate] at hc
        · exact h
      have hfl : (f == wrap64 (f + (bs.count true : Int))) = false := by
        have := wrap_ne f (bs.count true) (by omega) h1 h2
        simp [hc] at this
        simpa using this
      refine (markOf_rise B lo _ k ep f _ w hr (by omega) (by omega) hfl).mono ?_
      rintro e' w' ⟨rfl, hw'⟩
      refine ⟨ret_int ?_, hw'⟩
      have hck : (bs.take (k + 1)).count true = k := by
        rw [e, List.take_succ_cons, List.take_replicate, List.count_cons, List.count_replicate]
        simp
        omega
      rw [hck]

end Go.Proofs.Ybulkdaie
