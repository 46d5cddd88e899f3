/-
  slices.Insert of one span, ahead of another: no room.
-/
import Derived.Test.YbulkdaieS9
namespace Go.Proofs.Ybulkdaie.Scr
open Go.RowKit
set_option linter.unusedVariables false
set_option linter.unusedSimpArgs false

theorem ins_grow (base g n c i vb : Nat) (L : List Sp) (s : Sp) (w : World) (hown : w.ownsRow base 67 3 (.slice (some ⟨g, 0, none⟩) n c) n (spCells L)) (hi : i < n) (hn18 : n ≤ 18) (hroom : c < n + 1) (hv : RowAt w vb 67 (spc s)) (hbase : base ≤ w.heap.size) :
    Calls Yba.prog 26 #[.slice (some ⟨g, 0, none⟩) n c, .int .i64 (i : Int), .slice (some ⟨vb, 0, none⟩) 1 1] w fun r w' => ∃ G, r = .returned (.slice (some ⟨w.heap.size, 0, none⟩) (n + 1) G) ∧ w'.ownsRow base 67 3 (.slice (some ⟨w.heap.size, 0, none⟩) (n + 1) G) (n + 1) (spCells (L.take i ++ s :: L.drop i)) ∧ w.grownBy w' (some g) := by
  have hlen := owns_len hown
  obtain ⟨C, hrow, hCl, hCt, hnc, hcm, hbg⟩ := owns_row hown
  have hsz : (Yba.prog.info? 67).map (·.size) = some 3 := by kernel_rfl
  have hz2 : ¬ ((i : Int) = (n : Int)) := by omega
  have hgw := hrow.lt
  have hvw := hv.lt
  obtain ⟨D, hD⟩ : ∃ D, D = spCells (L.drop i) := ⟨_, rfl⟩
  obtain ⟨E, hE⟩ : ∃ E, E = spCells (L.take i) := ⟨_, rfl⟩
  have hDl : D.length = (n - i) * 3 := by rw [hD, spCells_len, List.length_drop, hlen]
  have hEl : E.length = i * 3 := by rw [hE, spCells_len, List.length_take, hlen, Nat.min_eq_left (by omega)]
  have hD1 : ∀ u ∈ D, u.oneCell' = true := by rw [hD]; exact spCells_one _
  have e1 : spCells L = E ++ D := by rw [hD, hE, ← spCells_append, List.take_append_drop]
  have hCD : ∀ k u, D[k]? = some u → C[i * 3 + k]? = some u := by
    intro k u hk
    have h5 : (spCells L)[i * 3 + k]? = some u := by
      rw [e1, List.getElem?_append_right (by omega), hEl, Nat.add_sub_cancel_left]; exact hk
    rw [← hCt, List.getElem?_take] at h5
    split at h5
    · exact h5
    · cases h5
  have hCE : ∀ (k : Nat) (u : Value), E[k]? = some u → C[k]? = some u := by
    intro k u hk
    have hk' := (List.getElem?_eq_some_iff.1 hk).1
    have h5 : (spCells L)[k]? = some u := by
      rw [e1, List.getElem?_append_left hk']; exact hk
    rw [← hCt, List.getElem?_take] at h5
    split at h5
    · exact h5
    · cases h5
  have hold : (Builtin.firstCells Yba.t67.size i (.slice (some ⟨g, 0, none⟩) i c)).run Yba.prog w.drew = .ok E.toArray w.drew :=
    run_firstCells_some w.drew 3 i ⟨g, 0, none⟩ i c E (by rw [hEl]) (fun k u hk => by
      rw [WideShapes.add_plain, Nat.zero_add]
      exact (hrow.cell k).trans (hCE k u hk))
  obtain ⟨G, hG⟩ : ∃ G, G = grownCap w (n + 1) c 67 := ⟨_, rfl⟩
  have hGn : n + 1 ≤ G := by rw [hG]; exact grownCap_ge w _ _ _
  have hGm : G ≤ maxLen := by rw [hG]; exact grownCap_le_maxLen w (n + 1) c 67 (by unfold maxLen; omega)
  have hG63 : G ≤ 9223372036854775807 := by unfold maxLen at hGm; omega
  obtain ⟨ROW, hROW⟩ : ∃ ROW : Array Value, ROW = E.toArray ++ Builtin.zeroCells (Value.agg #[.int .u64 0, .int .u64 0, .int .u64 0]).cells (n + 1 - i) ++ Builtin.zeroCells (Value.agg #[.int .u64 0, .int .u64 0, .int .u64 0]).cells (G - (n + 1)) := ⟨_, rfl⟩
  have hRl : ROW.size = G * 3 := by
    rw [hROW]
    simp [Builtin.zeroCells, Value.cells, hEl]
    omega
  obtain ⟨W1, hW1⟩ : ∃ W1, W1 = w.drew.alloc (.cells ROW 67) := ⟨_, rfl⟩
  have hrz : ∀ ty, (Builtin.append_ #[97, 3] ty #[.slice (some ⟨g, 0, none⟩) i c, .int .i64 ((n : Int) + 1 - (i : Int))]).run Yba.prog w = .ok (.slice (some ⟨w.heap.size, 0, none⟩) (n + 1) G) W1 := fun ty => by
    have h := Lib.run_append_grow_zeros (P := Yba.prog) w 97 3 ty 67 Yba.t67 (Value.agg #[.int .u64 0, .int .u64 0, .int .u64 0]) .i64 .i64 Yba.underlying97 Yba.underlying3 (by kernel_rfl) (by kernel_rfl) (some ⟨g, 0, none⟩) i c E hold (n + 1 - i) (by omega) (by decide) (by omega) (by omega) (by rw [show Yba.t67.bytes = 24 from rfl]; omega) (by
      rw [show Yba.t67.bytes = 24 from rfl, show i + (n + 1 - i) = n + 1 by omega]
      exact growslice_fits hroom (by omega))
    rw [show i + (n + 1 - i) = n + 1 by omega, ← hG, ← hROW, ← hW1, show ((n + 1 - i : Nat) : Int) = (n : Int) + 1 - (i : Int) by omega] at h
    exact h
  have hn1 : RowAt W1 w.heap.size 67 ROW.toList := by
    have := RowAt.new w.drew ROW.toList 67
    rw [hW1]
    simpa using this
  have hgr1 : w.grownBy W1 (some g) := by rw [hW1]; exact ⟨rfl, rfl, rfl, by simp, fun k hk _ => Below.heap_alloc w.drew _ k hk⟩
  have hv1 : RowAt W1 vb 67 (spc s) := by rw [hW1]; exact RowAt.alloc (w := w.drew) hv _
  have hg1 : RowAt W1 g 67 C := by rw [hW1]; exact RowAt.alloc (w := w.drew) hrow _
  obtain ⟨N, hN⟩ : ∃ N, N = w.heap.size := ⟨_, rfl⟩
  rw [← hN] at hrz hn1 ⊢
  have hcpA : ∀ ty dc, (Builtin.copy_ #[97, 97] ty #[.slice (some ⟨N, i * 3, none⟩) (n + 1 - i) dc, .slice (some ⟨vb, 0, none⟩) 1 1]).run Yba.prog W1 = .ok (goInt (Nat.min 1 (n + 1 - i))) (W1.setCells N (i * 3) (spc s)) := fun ty dc =>
    run_copy_wide W1 97 97 ty 67 3 N (i * 3) (n + 1 - i) dc ⟨vb, 0, none⟩ 1 1 (spc s) Yba.underlying97 hsz (by rw [show Nat.min 1 (n + 1 - i) = 1 from (by show min 1 (n + 1 - i) = 1; omega)]; rfl)
      (fun k u hk => by rw [WideShapes.add_plain, Nat.zero_add, hv1.cell]; exact hk) (fun k hk => by rw [hn1.cell, List.getElem?_eq_getElem (by simp [hRl]; simp [spc] at hk; omega)]; rfl) (fun k hk => hn1.frozen _) (spc_one s)
  obtain ⟨W2, hW2⟩ : ∃ W2, W2 = W1.setCells N (i * 3) (spc s) := ⟨_, rfl⟩
  rw [← hW2] at hcpA
  have hn2 : RowAt W2 N 67 (ROW.toList.take (i * 3) ++ (spc s ++ ROW.toList.drop (i * 3 + (spc s).length))) := by
    rw [hW2]; exact RowAt.setCells (spc s) _ W1 _ hn1 (by simp [hRl, spc]; omega)
  have hgr2 : w.grownBy W2 (some g) := by
    have h5 : W1.grownBy W2 (some N) := by rw [hW2]; exact grown_setCells _ _ _ _ ⟨rfl, rfl, rfl, Nat.le_refl _, fun _ _ _ => rfl⟩
    refine ⟨h5.os.trans hgr1.os, h5.tape.trans hgr1.tape, h5.output.trans hgr1.output, Nat.le_trans hgr1.size h5.size, fun k hk hne => ?_⟩
    rw [h5.block k (Nat.lt_of_lt_of_le hk hgr1.size) (by simp; omega)]
    exact hgr1.block k hk hne
  have hg2 : RowAt W2 g 67 C := by
    have h5 : W1.grownBy W2 (some N) := by rw [hW2]; exact grown_setCells _ _ _ _ ⟨rfl, rfl, rfl, Nat.le_refl _, fun _ _ _ => rfl⟩
    exact hg1.grown h5 (by simp; omega)
  have hl2 : (ROW.toList.take (i * 3) ++ (spc s ++ ROW.toList.drop (i * 3 + (spc s).length))).length = G * 3 := by simp [hRl, spc]; omega
  have hg2d : RowAt W2.drew g 67 C := hg2
  have hn2d : RowAt W2.drew N 67 (ROW.toList.take (i * 3) ++ (spc s ++ ROW.toList.drop (i * 3 + (spc s).length))) := hn2
  have hcpB : ∀ ty dc sc, (Builtin.copy_ #[97, 97] ty #[.slice (some ⟨N, (i + 1) * 3, none⟩) (n + 1 - (i + 1)) dc, .slice (some ⟨g, i * 3, none⟩) (n - i) sc]).run Yba.prog W2.drew = .ok (goInt (Nat.min (n - i) (n + 1 - (i + 1)))) (W2.drew.setCells N ((i + 1) * 3) D) := fun ty dc sc =>
    run_copy_wide W2.drew 97 97 ty 67 3 N ((i + 1) * 3) (n + 1 - (i + 1)) dc ⟨g, i * 3, none⟩ (n - i) sc D Yba.underlying97 hsz (by rw [hDl, show Nat.min (n - i) (n + 1 - (i + 1)) = n - i from (by show min (n - i) (n + 1 - (i + 1)) = n - i; omega)])
      (fun k u hk => by rw [WideShapes.add_plain, hg2d.cell]; exact hCD k u hk) (fun k hk => by rw [hn2d.cell, List.getElem?_eq_getElem (by rw [hl2]; omega)]; rfl) (fun k hk => hn2d.frozen _) hD1
  have hw1 : IntKind.i64.wrap ((i : Int) + 1) = (i : Int) + 1 := by rw [IntKind.wrap_i64]; omega
  have hw2 : (0 : Int) ≤ (i : Int) + 1 := by omega
  have hw3 : ((i : Int) + 1).toNat = i + 1 := by omega
  have hb0 : ¬ G = i := by omega
  have hb1 : ¬ G = i + 1 := by omega
  have hb2 : ¬ c = i := by omega
  have hb3 : (i : Int) ≤ (n : Int) := by omega
  have hb4 : (c : Int) < (n : Int) + 1 := by omega
  have hb5 : (i : Int) + 1 ≤ (n : Int) + 1 := by omega
  have hb6 : (i : Int) ≤ (c : Int) := by omega
  have hb7 : (i : Int) ≤ (n : Int) + 1 := by omega
  have hin : i ≤ n := by omega
  have HD := hide hD
  have HE := hide hE
  have HDL := hide hDl
  have HEL := hide hEl
  have HN2 := hide hn2
  have HGR2 := hide hgr2
  have HL2 := hide hl2
  have HRL := hide hRl
  have HROW := hide hROW
  have HN := hide hN
  clear hD hE hDl hEl hn2 hgr2 hl2 hRl hROW hN hW1 hW2 hG hold hCD hCE hD1 e1 hn1 hgr1 hv1 hg1 hg2 hg2d hn2d hrow hown hv hCt hCl hlen hsz
  go_enter Yba.func26, Yba.ntmps26
  go_wp2_with (first
    | (at_builtin; refine Lib.wpList_append_run _ rfl _ _ _ _ rfl _ _ rfl rfl _ _ (hrz _) ?_)
    | (at_builtin; refine wpList_copy_is _ rfl _ _ 97 97 rfl _ _ rfl rfl (hcpA _ _) ?_))
  go_region_law (refine step_copy_is (by rfl) _ _ 97 97 (by rfl) (.slice (some ⟨N, (i + 1) * 3, none⟩) (n + 1 - (i + 1)) (G - (i + 1))) (.slice (some ⟨g, i * 3, none⟩) (n - i) (c - i)) (by simp [Act.eval, Act.put]) (by simp [Act.eval, Act.put]) (hcpB _ _ _) ?_)
  go_wp2_with fail
  go_ret
  have h7 := HL2.out
  have hDl : D.length = (n - i) * 3 := HDL.out
  have hEl : E.length = i * 3 := HEL.out
  have h8 := HRL.out
  have hr3 := RowAt.setCells D ((i + 1) * 3) W2.drew _ HN2.out (by rw [h7, hDl]; omega)
  refine ⟨G, rfl, row_owns hr3 ?_ ?_ (by omega) hGm (by rw [HN.out]; exact hbase), ?_⟩
  · simp only [List.length_append, List.length_take, List.length_drop, List.length_cons, List.length_nil, spc] at h7 ⊢
    omega
  · have e0 : ROW.toList.take (i * 3) = E := by
      rw [HROW.out]
      simp
      rw [← hEl]
      simp
    rw [e0]
    have hl3 : (E ++ spc s).length = (i + 1) * 3 := by simp [hEl, spc]; omega
    rw [← List.append_assoc E, List.take_left' hl3, ← List.append_assoc, List.take_left' (by rw [List.length_append, hl3, hDl]; omega), spCells_append, spCells_cons, ← HD.out, ← HE.out, List.append_assoc]
  · have h5 : W2.grownBy (W2.drew.setCells N ((i + 1) * 3) D) (some N) := grown_setCells _ _ _ _ ⟨rfl, rfl, rfl, Nat.le_refl _, fun _ _ _ => rfl⟩
    have h6 := HGR2.out
    have h9 := HN.out
    refine ⟨h5.os.trans h6.os, h5.tape.trans h6.tape, h5.output.trans h6.output, Nat.le_trans h6.size h5.size, fun k hk hne => ?_⟩
    rw [h5.block k (Nat.lt_of_lt_of_le hk h6.size) (by simp; omega)]
    exact h6.block k hk hne
end Go.Proofs.Ybulkdaie.Scr
