/-
  slices.Insert of one span, ahead of another.
-/
import Derived.Test.YbulkdaieS8
import Derived.Lib.Overlaps
import Derived.Lib.AppendZerosOnto
import Derived.Laws.IdiomCopy
import Derived.Laws.Externs
namespace Go.Proofs.Ybulkdaie.Scr
open Go.RowKit
set_option linter.unusedVariables false
set_option linter.unusedSimpArgs false

/-- 'copy' of elements of more cells than one. -/
theorem run_copy_wide {P : Program} (w : World) (dT sT ty elem : TypeId) (size : Nat) (b o dLen dCap : Nat) (a : Addr) (sLen sCap : Nat) (cs : List Value)
    (hu : P.underlying dT = some (.slice elem)) (hs : (P.info? elem).map (·.size) = some size) (hn : cs.length = Nat.min sLen dLen * size)
    (hsrc : ∀ j v, cs[j]? = some v → w.cell? (a.add j) = some v) (hc : ∀ j, j < cs.length → (w.cell? ⟨b, o + j, none⟩).isSome = true) (hf : ∀ j, j < cs.length → w.frozen? ⟨b, o + j, none⟩ = false) (h1 : ∀ v ∈ cs, v.oneCell' = true) :
    (Builtin.copy_ #[dT, sT] ty #[.slice (some ⟨b, o, none⟩) dLen dCap, .slice (some a) sLen sCap]).run P w = .ok (goInt (Nat.min sLen dLen)) (w.setCells b o cs) := by
  have hl := run_loadCells_list (P := P) w a cs hsrc
  have hst := run_storeCells_cells (P := P) b o cs 0 w (by simpa using hc) (by simpa using hf) h1
  cases hq : P.info? elem with
  | none => simp [hq] at hs
  | some i =>
    have hi : i.size = size := by simpa [hq] using hs
    rw [hn] at hl
    simp [Builtin.copy_, run_underlying hu, Builtin.lenOf, Builtin.firstCells, sizeOf, typeInfo, hq, hi, hl, hst]

theorem wp_copy_is {P : Program} (w : World) {o : Oper} {a : Act} {K : Act → World → Prop} {Q : Exit → Act → World → Prop} (d s : Operand) (t t' : TypeId)
    (ho : o.op = .call { callee := .builtin .copy, args := #[d, s], argTypes := #[t, t'] }) (v u : Value) (hd : a.eval d = v) (hs : a.eval s = u) {v' : Value} {w' : World}
    (hr : (Builtin.copy_ #[t, t'] o.type #[v, u]).run P w = .ok v' w') (h : K (a.put o.dst v') w') : o.wp P a w K Q := by
  unfold Oper.wp execOp
  simp only [ho, resolve, invoke, builtin, Sem.run_bind, Sem.run_pure, Result.andThen_ok, List.map_toArray, List.map_cons, List.map_nil, hd, hs, hr]
  exact h
theorem wpList_copy_is {P : Program} (w : World) {ops : Array Oper} {rest : List Oper} {o : Oper} {a : Act} {Q : Exit → Act → World → Prop} (hgd : o.guard = none) (d s : Operand) (t t' : TypeId)
    (ho : o.op = .call { callee := .builtin .copy, args := #[d, s], argTypes := #[t, t'] }) (v u : Value) (hd : a.eval d = v) (hs : a.eval s = u) {v' : Value} {w' : World}
    (hr : (Builtin.copy_ #[t, t'] o.type #[v, u]).run P w = .ok v' w') (h : wpList P ops Q rest (a.put o.dst v') w') : wpList P ops Q (o :: rest) a w :=
  wpList_plain hgd fun _ hK => wp_copy_is w d s t t' ho v u hd hs hr (hK _ _ h)
theorem step_copy_is {P : Program} {ops : Array Oper} {o : Oper} {a : Act} {w : World} {K : Act → World → Prop} {Q : Exit → Act → World → Prop} {E : Prop}
    (hg : o.guard = none) (d x : Operand) (dT sT : TypeId) (hop : o.op = Op.call { callee := Callee.builtin Builtin.copy, args := #[d, x], argTypes := #[dT, sT] })
    (v u : Value) (hd : a.eval d = v) (hx : a.eval x = u) {v' : Value} {w' : World} (hr : (Builtin.copy_ #[dT, sT] o.type #[v, u]).run P w = .ok v' w') (hK : K (a.put o.dst v') w') :
    if Region.wanted o (yielded ops a.tmps) = true then Oper.wp P o a w K Q else E := by
  have hw : Region.wanted o (yielded ops a.tmps) = true := by simp [Region.wanted, hg]
  rw [if_pos hw]
  unfold Oper.wp
  simp [execOp, hop, resolve, invoke, builtin, hd, hx, hr, Result.andThen]
  exact hK

/-- There is room: in place. -/
theorem ins_room (base g n c i vb : Nat) (L : List Sp) (s : Sp) (w : World) (hown : w.ownsRow base 67 3 (.slice (some ⟨g, 0, none⟩) n c) n (spCells L)) (hi : i < n) (hn18 : n ≤ 18) (hroom : n + 1 ≤ c) (hv : RowAt w vb 67 (spc s)) (hvg : vb ≠ g) :
    Calls Yba.prog 26 #[.slice (some ⟨g, 0, none⟩) n c, .int .i64 (i : Int), .slice (some ⟨vb, 0, none⟩) 1 1] w fun r w' => r = .returned (.slice (some ⟨g, 0, none⟩) (n + 1) c) ∧ w'.ownsRow base 67 3 (.slice (some ⟨g, 0, none⟩) (n + 1) c) (n + 1) (spCells (L.take i ++ s :: L.drop i)) ∧ w.grownBy w' (some g) := by
  have hlen := owns_len hown
  obtain ⟨C, hrow, hCl, hCt, hnc, hcm, hbg⟩ := owns_row hown
  have hc63 : c ≤ 9223372036854775807 := by unfold maxLen at hcm; omega
  have hsz : (Yba.prog.info? 67).map (·.size) = some 3 := by kernel_rfl
  have hz2 : ¬ ((i : Int) = (n : Int)) := by omega
  have hfz := hv.frozen
  have hsa : w.shape? vb = some (67, 3) := by
    unfold RowAt at hv
    simp [World.shape?, hv, spc]
  have hsb : w.shape? g = some (67, c * 3) := by
    unfold RowAt at hrow
    simp [World.shape?, hrow, hCl]
  have hov : ∀ lb cb, (callFunc 36 #[.slice (some ⟨vb, 0, none⟩) 1 1, .slice (some ⟨g, (i + 1) * 3, none⟩) lb cb]).run Yba.prog w = .ok (.value (.bool false)) w := fun lb cb => by
    rw [run_callFunc_extern Yba.func36 (by kernel_rfl) (by kernel_rfl) (by kernel_rfl) (e := Extern.SlicesOverlaps.overlaps #[97, 97] #[4]) (by kernel_rfl),
      Lib.run_overlaps_apart w 97 4 67 Yba.underlying97 3 (fun w => by kernel_rfl) ⟨vb, 0, none⟩ ⟨g, (i + 1) * 3, none⟩ 1 1 lb cb hvg 67 67 3 (c * 3) hsa hsb (by omega) (hfz 0) (hfz 3)]
    rfl
  obtain ⟨D, hD⟩ : ∃ D, D = spCells (L.drop i) := ⟨_, rfl⟩
  have hDl : D.length = (n - i) * 3 := by rw [hD, spCells_len, List.length_drop, hlen]
  have hD1 : ∀ u ∈ D, u.oneCell' = true := by rw [hD]; exact spCells_one _
  have hCD : ∀ k u, D[k]? = some u → C[i * 3 + k]? = some u := by
    intro k u hk
    have e1 : spCells L = spCells (L.take i) ++ D := by rw [hD, ← spCells_append, List.take_append_drop]
    have hl1 : (spCells (L.take i)).length = i * 3 := by rw [spCells_len, List.length_take, hlen, Nat.min_eq_left (by omega)]
    have h5 : (spCells L)[i * 3 + k]? = some u := by
      rw [e1, List.getElem?_append_right (by omega), hl1, Nat.add_sub_cancel_left]; exact hk
    rw [← hCt, List.getElem?_take] at h5
    split at h5
    · exact h5
    · cases h5
  have hrd : RowAt w.drew g 67 C := hrow
  have hcp1 : ∀ ty dc sc, (Builtin.copy_ #[97, 97] ty #[.slice (some ⟨g, (i + 1) * 3, none⟩) (n + 1 - (i + 1)) dc, .slice (some ⟨g, i * 3, none⟩) (n + 1 - i) sc]).run Yba.prog w.drew = .ok (goInt (Nat.min (n + 1 - i) (n + 1 - (i + 1)))) (w.drew.setCells g ((i + 1) * 3) D) := fun ty dc sc =>
    run_copy_wide w.drew 97 97 ty 67 3 g ((i + 1) * 3) (n + 1 - (i + 1)) dc ⟨g, i * 3, none⟩ (n + 1 - i) sc D Yba.underlying97 hsz (by rw [hDl, show Nat.min (n + 1 - i) (n + 1 - (i + 1)) = n - i from (by show min (n + 1 - i) (n + 1 - (i + 1)) = n - i; omega)])
      (fun k u hk => by rw [WideShapes.add_plain, hrd.cell]; exact hCD k u hk) (fun k hk => by rw [hrd.cell, List.getElem?_eq_getElem (by omega)]; rfl) (fun k hk => hrd.frozen _) hD1
  obtain ⟨W1, hW1⟩ : ∃ W1, W1 = w.drew.setCells g ((i + 1) * 3) D := ⟨_, rfl⟩
  rw [← hW1] at hcp1
  have hr1 : RowAt W1 g 67 (C.take ((i + 1) * 3) ++ (D ++ C.drop ((i + 1) * 3 + D.length))) := by
    rw [hW1]; exact RowAt.setCells D _ w.drew C hrow (by rw [hDl]; omega)
  have hg1 : w.grownBy W1 (some g) := by rw [hW1]; exact grown_setCells _ _ _ _ ⟨rfl, rfl, rfl, Nat.le_refl _, fun _ _ _ => rfl⟩
  have hl1 : (C.take ((i + 1) * 3) ++ (D ++ C.drop ((i + 1) * 3 + D.length))).length = c * 3 := by simp; omega
  have hv1 := hv.grown hg1 (by simp [hvg])
  have hcp2 : ∀ ty dc, (Builtin.copy_ #[97, 97] ty #[.slice (some ⟨g, i * 3, none⟩) (n + 1 - i) dc, .slice (some ⟨vb, 0, none⟩) 1 1]).run Yba.prog W1 = .ok (goInt (Nat.min 1 (n + 1 - i))) (W1.setCells g (i * 3) (spc s)) := fun ty dc =>
    run_copy_wide W1 97 97 ty 67 3 g (i * 3) (n + 1 - i) dc ⟨vb, 0, none⟩ 1 1 (spc s) Yba.underlying97 hsz (by rw [show Nat.min 1 (n + 1 - i) = 1 from (by show min 1 (n + 1 - i) = 1; omega)]; rfl)
      (fun k u hk => by rw [WideShapes.add_plain, Nat.zero_add, hv1.cell]; exact hk) (fun k hk => by rw [hr1.cell, List.getElem?_eq_getElem (by rw [hl1]; simp [spc] at hk; omega)]; rfl) (fun k hk => hr1.frozen _) (spc_one s)
  have hw1 : IntKind.i64.wrap ((i : Int) + 1) = (i : Int) + 1 := by rw [IntKind.wrap_i64]; omega
  have hw2 : (0 : Int) ≤ (i : Int) + 1 := by omega
  have hw3 : ((i : Int) + 1).toNat = i + 1 := by omega
  have hb1 : ¬ c = i + 1 := by omega
  have hb2 : ¬ c = i := by omega
  have hb3 : (i : Int) ≤ (n : Int) := by omega
  have hb4 : (n : Int) + 1 ≤ (c : Int) := by omega
  have hb5 : (i : Int) + 1 ≤ (n : Int) + 1 := by omega
  have hb7 : (i : Int) ≤ (n : Int) + 1 := by omega
  have hb6 : ¬ (c : Int) < (n : Int) + 1 := by omega
  have hin : i ≤ n := by omega
  have HD := hide hD
  have HDL := hide hDl
  have HCT := hide hCt
  have HCL := hide hCl
  have HLEN := hide hlen
  have HR1 := hide hr1
  have HG1 := hide hg1
  have HL1 := hide hl1
  have HW1 := hide hW1
  clear hD hDl hCt hCl hlen hr1 hg1 hl1 hW1 hCD hD1 hrow hrd hown hv hv1 hsa hsb hfz hsz
  go_enter Yba.func26, Yba.ntmps26
  go_wp2_with (simp only [hov])
  go_region_law (refine step_copy_is (by rfl) _ _ 97 97 (by rfl) (.slice (some ⟨g, (i + 1) * 3, none⟩) (n + 1 - (i + 1)) (c - (i + 1))) (.slice (some ⟨g, i * 3, none⟩) (n + 1 - i) (c - i)) (by simp [Act.eval, Act.put]) (by simp [Act.eval, Act.put]) (hcp1 _ _ _) ?_)
  go_wp2_with (at_builtin; refine wpList_copy_is _ rfl _ _ 97 97 rfl _ _ rfl rfl (hcp2 _ _) ?_)
  go_ret
  have h7 := HL1.out
  have h8 := HCL.out
  have h9 := HLEN.out
  have hDl : D.length = (n - i) * 3 := HDL.out
  have hr2 := RowAt.setCells (spc s) (i * 3) W1 _ HR1.out (by rw [h7]; simp [spc]; omega)
  refine ⟨rfl, row_owns hr2 ?_ ?_ (by omega) hcm hbg, grown_setCells _ _ _ _ HG1.out⟩
  · simp only [List.length_append, List.length_take, List.length_drop, List.length_cons, List.length_nil, spc] at h7 ⊢
    omega
  · have e0 : C.take (i * 3) = spCells (L.take i) := by
      have e1 : spCells L = spCells (L.take i) ++ spCells (L.drop i) := by rw [← spCells_append, List.take_append_drop]
      have hl1 : (spCells (L.take i)).length = i * 3 := by rw [spCells_len, List.length_take, h9, Nat.min_eq_left (by omega)]
      have e2 : (C.take (n * 3)).take (i * 3) = C.take (i * 3) := by rw [List.take_take, Nat.min_eq_left (by omega)]
      rw [← e2, HCT.out, e1, List.take_left' hl1]
    have hl3 : (C.take ((i + 1) * 3)).length = (i + 1) * 3 := by rw [List.length_take]; omega
    have e3 : (C.take ((i + 1) * 3) ++ (D ++ C.drop ((i + 1) * 3 + D.length))).take (i * 3) = C.take (i * 3) := by
      rw [List.take_append_of_le_length (by omega), List.take_take, Nat.min_eq_left (by omega)]
    have e4 : (C.take ((i + 1) * 3) ++ (D ++ C.drop ((i + 1) * 3 + D.length))).drop (i * 3 + (spc s).length) = D ++ C.drop ((i + 1) * 3 + D.length) := List.drop_left' (by rw [hl3]; simp [spc]; omega)
    rw [e3, e4, e0, spCells_append, spCells_cons, ← HD.out, ← List.append_assoc, ← List.append_assoc, List.take_left' (by
      rw [List.length_append, List.length_append, spCells_len, List.length_take, hDl]
      simp [spc]
      omega), List.append_assoc]
end Go.Proofs.Ybulkdaie.Scr
