/-
  slices.Delete of one span.
-/
import Derived.Test.YbulkdaieS7
namespace Go.Proofs.Ybulkdaie.Scr
open Go.RowKit
set_option linter.unusedVariables false
set_option linter.unusedSimpArgs false

theorem del_any (base g n m c i : Nat) (L : List Sp) (w : World) (hown : w.ownsRow base 67 3 (.slice (some ⟨g, 0, none⟩) n c) n (spCells L)) (hi : i < n) (hnm : n = m + 1) (hn18 : n ≤ 18) :
    Calls Yba.prog 31 #[.slice (some ⟨g, 0, none⟩) n c, .int .i64 (i : Int), .int .i64 ((i : Int) + 1)] w fun r w' => r = .returned (.slice (some ⟨g, 0, none⟩) m c) ∧ w'.ownsRow base 67 3 (.slice (some ⟨g, 0, none⟩) m c) m (spCells (L.eraseIdx i)) ∧ w.grownBy w' (some g) := by
  have hlen := owns_len hown
  obtain ⟨C, hrow, hCl, hCt, hnc, hcm, hbg⟩ := owns_row hown
  obtain ⟨j, hj⟩ : ∃ j, j = i + 1 := ⟨_, rfl⟩
  have hji : (i : Int) + 1 = (j : Int) := by omega
  rw [hji]
  have h1 : (i : Int) ≤ (j : Int) := by omega
  have h2 : (j : Int) ≤ (n : Int) := by omega
  have h3 : (n : Int) ≤ (c : Int) := by omega
  have h4 : ((i : Int) == (j : Int)) = false := by simp; omega
  have hic : i ≤ c := by omega
  have hjc : j ≤ c := by omega
  have hjn : j ≤ n := by omega
  have hij : i ≤ j := by omega
  have hne : ¬ i = j := by omega
  obtain ⟨news, hnews⟩ : ∃ news, news = spCells (L.drop j) := ⟨_, rfl⟩
  have hnl : news.length = (n - j) * 3 := by rw [hnews, spCells_len, List.length_drop, hlen]
  have hnone : ∀ u ∈ news, u.oneCell' = true := by rw [hnews]; exact spCells_one _
  have hCnews : ∀ k u, news[k]? = some u → C[j * 3 + k]? = some u := by
    intro k u hk
    have e1 : spCells L = spCells (L.take j) ++ news := by rw [hnews, ← spCells_append, List.take_append_drop]
    have hl1 : (spCells (L.take j)).length = j * 3 := by rw [spCells_len, List.length_take, hlen, Nat.min_eq_left hjn]
    have h5 : (spCells L)[j * 3 + k]? = some u := by
      rw [e1, List.getElem?_append_right (by omega), hl1, Nat.add_sub_cancel_left]; exact hk
    rw [← hCt, List.getElem?_take] at h5
    split at h5
    · exact h5
    · cases h5
  obtain ⟨A, hA, hsrc⟩ : ∃ A : Addr, (if c = j then some (⟨g, 0, none⟩ : Addr) else some ⟨g, j * 3, none⟩) = some A ∧ Hid (∀ t u, news[t]? = some u → w.drew.cell? (A.add t) = some u) := by
    by_cases h : c = j
    · refine ⟨⟨g, 0, none⟩, by simp [h], fun t u hu => ?_⟩
      have h0 : news.length = 0 := by rw [hnl]; omega
      rw [List.length_eq_zero_iff.1 h0] at hu
      simp at hu
    · refine ⟨⟨g, j * 3, none⟩, by simp [h], fun t u hu => ?_⟩
      rw [WideShapes.add_plain]
      exact (hrow.cell _).trans (hCnews t u hu)
  have s1 : Hid (news.length = (n - j) * 3) := hnl
  have s2 : Hid (∀ u ∈ news, u.oneCell' = true) := hnone
  have s3 : Hid (∀ t, t < news.length → (w.drew.cell? ⟨g, 0 + i * 3 + t, none⟩).isSome = true ∧ w.drew.frozen? ⟨g, 0 + i * 3 + t, none⟩ = false) := by
    intro t ht
    rw [hnl] at ht
    refine ⟨?_, hrow.frozen _⟩
    show (w.cell? _).isSome = true
    rw [hrow.cell, List.getElem?_eq_getElem (by omega)]
    rfl
  obtain ⟨W1, hW1⟩ : ∃ W1, W1 = w.drew.setCells g (0 + i * 3) news := ⟨_, rfl⟩
  have hr1 : RowAt W1 g 67 (C.take (i * 3) ++ (news ++ C.drop (i * 3 + news.length))) := by
    rw [hW1, Nat.zero_add]
    exact RowAt.setCells news (i * 3) w.drew C hrow (by rw [hnl]; omega)
  have hg1 : w.grownBy W1 (some g) := by rw [hW1]; exact grown_setCells _ _ _ _ ⟨rfl, rfl, rfl, Nat.le_refl _, fun _ _ _ => rfl⟩
  have hl2 : (C.take (i * 3) ++ (news ++ C.drop (i * 3 + news.length))).length = c * 3 := by simp; omega
  have hm1 : i + (n - j) = m := by omega
  have hcl : ∀ ty, (Builtin.clear_ #[97] ty #[.slice (some ⟨g, m * 3, none⟩) (n - m) (c - m)]).run Yba.prog W1 = .ok (.tuple #[]) (W1.setCells g (m * 3) [.int .u64 0, .int .u64 0, .int .u64 0]) :=
    fun ty => by rw [show n - m = 1 by omega]; exact run_clear_one W1 97 67 ty (.agg #[.int .u64 0, .int .u64 0, .int .u64 0]) Yba.underlying97 (fun w => by kernel_rfl) (by simp [Value.cells]; rfl) g _ _ (fun k hk => by
      rw [hr1.cell, List.getElem?_eq_getElem (by rw [hl2]; simp [Value.cells] at hk; omega)]; rfl) (fun k hk => hr1.frozen _)
  have hmn : (m : Int) ≤ (n : Int) := by omega
  have hmc : (m : Int) ≤ (c : Int) := by omega
  have hmn' : m ≤ n := by omega
  have hmc' : ¬ c = m := by omega
  have HNM := hide hnm
  clear hnm
  have HJ := hide hj
  have HLEN := hide hlen
  have HCT := hide hCt
  have HCL := hide hCl
  have HROW := hide hrow
  have HOWN := hide hown
  have HW1 := hide hW1
  have HR1 := hide hr1
  have HG1 := hide hg1
  have HNEWS := hide hnews
  have HL2 := hide hl2
  clear hj hji hlen hCt hCl hrow hown hW1 hr1 hg1 hnews hnl hnone hCnews hl2
  go_enter Yba.func31, Yba.ntmps31
  go_wp2_with fail
  go_region_law (refine step_append_room (by rfl) (.tmp 22) (.tmp 25) 97 (by rfl) 67 Yba.t67 3 Yba.underlying97 (by kernel_rfl) rfl g 0 i c (by simp [Act.eval, Act.put]) A (n - j) (c - j) news (by simp [Act.eval, Act.put]) s1.out hsrc.out s2.out (by omega) s3.out ?_; rw [← HW1.out, hm1])
  go_wp2_with fail
  go_ret
  have h5 := HNM.out
  have h6 := HJ.out
  have h7 := HL2.out
  have h8 := HCL.out
  have h9 := HLEN.out
  have hnl : news.length = (n - j) * 3 := s1.out
  have hr2 := RowAt.setCells [.int .u64 0, .int .u64 0, .int .u64 0] (m * 3) W1 _ HR1.out (by rw [h7]; simp; omega)
  refine ⟨rfl, row_owns hr2 ?_ ?_ (by omega) hcm hbg, grown_setCells _ _ _ _ HG1.out⟩
  · simp only [List.length_append, List.length_take, List.length_drop, List.length_cons, List.length_nil] at h7 ⊢
    omega
  · have e0 : C.take (i * 3) = spCells (L.take i) := by
      have e1 : spCells L = spCells (L.take i) ++ spCells (L.drop i) := by rw [← spCells_append, List.take_append_drop]
      have hl1 : (spCells (L.take i)).length = i * 3 := by rw [spCells_len, List.length_take, h9, Nat.min_eq_left (by omega)]
      have e2 : (C.take (n * 3)).take (i * 3) = C.take (i * 3) := by rw [List.take_take, Nat.min_eq_left (by omega)]
      rw [← e2, HCT.out, e1, List.take_left' hl1]
    have hl3 : (C.take (i * 3) ++ news).length = m * 3 := by rw [List.length_append, List.length_take, hnl]; omega
    have hl4 : ((C.take (i * 3) ++ (news ++ C.drop (i * 3 + news.length))).take (m * 3)).length = m * 3 := by rw [List.length_take, h7]; omega
    rw [List.take_left' hl4, ← List.append_assoc, List.take_left' hl3, e0, HNEWS.out, ← spCells_append, List.eraseIdx_eq_take_drop_succ, h6]

/-- slices.Delete of the one block. -/
theorem delB_any (base h cb : Nat) (u : Value) (w : World) (hown : w.ownsRow base 97 1 (.slice (some ⟨h, 0, none⟩) 1 cb) 1 [u]) :
    Calls Yba.prog 32 #[.slice (some ⟨h, 0, none⟩) 1 cb, .int .i64 0, .int .i64 1] w fun r w' => r = .returned (.slice (some ⟨h, 0, none⟩) 0 cb) ∧ w'.ownsRow base 97 1 (.slice (some ⟨h, 0, none⟩) 0 cb) 0 [] ∧ w.grownBy w' (some h) := by
  obtain ⟨C, hrow, hCl, hCt, hnc, hcm, hbg⟩ := owns_row hown
  have h3 : (1 : Int) ≤ (cb : Int) := by omega
  obtain ⟨A, hA, hsrc⟩ : ∃ A : Addr, (if cb = 1 then some (⟨h, 0, none⟩ : Addr) else some ⟨h, 1, none⟩) = some A ∧ Hid (∀ t u, ([] : List Value)[t]? = some u → w.drew.cell? (A.add t) = some u) := by
    by_cases h : cb = 1
    · exact ⟨_, by simp [h]; rfl, fun t u hu => by simp at hu⟩
    · exact ⟨_, by simp [h]; rfl, fun t u hu => by simp at hu⟩
  have s3 : Hid (∀ t, t < ([] : List Value).length → (w.drew.cell? ⟨h, 0 + 0 * 1 + t, none⟩).isSome = true ∧ w.drew.frozen? ⟨h, 0 + 0 * 1 + t, none⟩ = false) := by
    intro t ht
    simp at ht
  have hrd : RowAt w.drew h 97 C := hrow
  have hcl : ∀ ty cc, (Builtin.clear_ #[79] ty #[.slice (some ⟨h, 0, none⟩) 1 cc]).run Yba.prog w.drew = .ok (.tuple #[]) (w.drew.setCells h 0 [.slice none 0 0]) :=
    fun ty cc => run_clear_one w.drew 79 97 ty (.slice none 0 0) Yba.underlying79 (fun w => by kernel_rfl) (by simp [Value.cells]; rfl) h _ _ (fun k hk => by
      rw [hrd.cell, List.getElem?_eq_getElem (by simp [Value.cells] at hk; omega)]; rfl) (fun k hk => hrd.frozen _)
  have hcb0 : ¬ cb = 0 := by omega
  have HROW := hide hrow
  have HOWN := hide hown
  have HCL := hide hCl
  clear hrow hown hCl hCt hrd
  go_enter Yba.func32, Yba.ntmps32
  go_wp2_with fail
  go_region_law (refine step_append_room (by rfl) (.tmp 22) (.tmp 25) 79 (by rfl) 97 Yba.t97 1 Yba.underlying79 (by kernel_rfl) rfl h 0 0 cb (by simp [Act.eval, Act.put]) A 0 (cb - 1) [] (by simp [Act.eval, Act.put]) rfl hsrc.out (by simp) (by omega) s3.out ?_; rw [World.setCells])
  go_wp2_with fail
  go_ret
  have h8 := HCL.out
  have hr2 := RowAt.setCells [.slice none 0 0] 0 w.drew C HROW.out (by simp; omega)
  refine ⟨rfl, row_owns hr2 ?_ ?_ (by omega) hcm hbg, grown_setCells _ _ _ _ ⟨rfl, rfl, rfl, Nat.le_refl _, fun _ _ _ => rfl⟩⟩
  · simp
    omega
  · simp
end Go.Proofs.Ybulkdaie.Scr
