/-
  PosSet.Add at or below the last span.
-/
import Derived.Test.YbulkdaieS19
namespace Go.Proofs.Ybulkdaie.Scr
open Go.RowKit
set_option linter.unusedVariables false
set_option linter.unusedSimpArgs false

set_option maxHeartbeats 8000000 in
set_option maxRecDepth 100000 in
theorem add_low (base b : Nat) (bv sv : Value) (A : List Sp) (s : Sp) (e c : Nat) (w : World) (h : PS w base b bv sv (A ++ [s])) (hG : Good (A ++ [s])) (hc5 : c ≤ 5) (hbase : base ≤ w.heap.size) (hu : ¬ s.under e c) :
    Calls Yba.prog 10 #[.pointer (some ⟨b, 0, none⟩), pos e c, pos e c] w fun r w' => LowPost base b bv sv (A ++ [s]) e c w r w' := by
  obtain ⟨hh, cb, g, cg, rfl, rfl, hB, hS, hnc, hcb, hbh, hbg, hhg⟩ := h.some (by simp)
  have h18 := hG.len
  have H18 := hide hG.len
  have HG := hide hG
  have hsm := hG.small s (by simp)
  obtain ⟨n, hn⟩ : ∃ n, n = (A ++ [s]).length := ⟨_, rfl⟩
  obtain ⟨m, hm⟩ : ∃ m, m = A.length := ⟨_, rfl⟩
  have hnm : n = m + 1 := by rw [hn, hm]; simp
  obtain ⟨hs0, hs1, hs2⟩ := owns_spAt hS m s (by rw [hm]; simp)
  rw [← hn] at h18
  have hb0 : w.cell? ⟨b, 0, none⟩ = some (.slice (some ⟨hh, 0, none⟩) 1 cb) := h.row.cell 0
  have hb1 : w.cell? ⟨hh, 0, none⟩ = some (.slice (some ⟨g, 0, none⟩) n cg) := by rw [hn]; exact owns_cell0 hB
  have hbl : b < w.heap.size := h.row.lt
  have hgl : g < w.heap.size := (hS.lt g rfl).2
  have HPS := hide h
  have HNF : Hid (¬ Foot b (.slice (some ⟨hh, 0, none⟩) 1 cb) (.slice (some ⟨g, 0, none⟩) (A ++ [s]).length cg) (w.heap.size + 1 + 1)) := by intro hk; have := (h.foot_lt hk).2; omega
  have hcl : ¬ cmpP s.e s.hi e c < 0 := fun hx => hu ((cmpP_under s e c).1 hx)
  have HNM := hide hnm
  have HN := hide hn
  have HM := hide hm
  obtain ⟨LL, hLL⟩ : ∃ LL, LL = A ++ [s] := ⟨_, rfl⟩
  rw [← hLL] at HPS H18 HNF HG ⊢
  have HLL := hide hLL
  obtain ⟨hse, hslo, hshi⟩ := hsm
  have HU := hide hu
  clear h hB hS hn hm hnm hu hnc hLL hG
  unfold pos
  go_enter Yba.func10, Yba.ntmps10
  go_wp2_with (go_at_call 15; refine (last_one b hh g n m cb cg _ (by exact acell (acell (acell hb0 _) _) _) (by exact acell (acell (acell hb1 _) _) _) HNM.out (by have := HNM.out; omega)).mono ?_; rintro r w2 ⟨rfl, kq, hw2⟩; rw [hw2]; clear hw2 w2)
  have hWb : Below w.heap.size w ((((w.alloc (Obj.cells #[Value.int IntKind.u64 ↑e, Value.int IntKind.u64 ↑c] 32)).alloc (Obj.cells #[Value.int IntKind.u64 ↑e, Value.int IntKind.u64 ↑c] 32)).alloc (Obj.cells #[Value.int IntKind.u64 ↑e, Value.int IntKind.u64 ↑c, Value.int IntKind.u64 ↑c] 67)).drewN kq) := below_drewN ((((Below.refl _ _).alloc (Nat.le_refl _) _).alloc (by simp) _).alloc (by simp; omega) _) _
  have hWs : ((((w.alloc (Obj.cells #[Value.int IntKind.u64 ↑e, Value.int IntKind.u64 ↑c] 32)).alloc (Obj.cells #[Value.int IntKind.u64 ↑e, Value.int IntKind.u64 ↑c] 32)).alloc (Obj.cells #[Value.int IntKind.u64 ↑e, Value.int IntKind.u64 ↑c, Value.int IntKind.u64 ↑c] 67)).drewN kq).heap.size = w.heap.size + 3 := by simp
  have hW0 : RowAt ((((w.alloc (Obj.cells #[Value.int IntKind.u64 ↑e, Value.int IntKind.u64 ↑c] 32)).alloc (Obj.cells #[Value.int IntKind.u64 ↑e, Value.int IntKind.u64 ↑c] 32)).alloc (Obj.cells #[Value.int IntKind.u64 ↑e, Value.int IntKind.u64 ↑c, Value.int IntKind.u64 ↑c] 67)).drewN kq) w.heap.size 32 [.int .u64 (e : Int), .int .u64 (c : Int)] := RowAt.alloc (RowAt.alloc (RowAt.new w [.int .u64 (e : Int), .int .u64 (c : Int)] 32) _) _
  have hW1 : RowAt ((((w.alloc (Obj.cells #[Value.int IntKind.u64 ↑e, Value.int IntKind.u64 ↑c] 32)).alloc (Obj.cells #[Value.int IntKind.u64 ↑e, Value.int IntKind.u64 ↑c] 32)).alloc (Obj.cells #[Value.int IntKind.u64 ↑e, Value.int IntKind.u64 ↑c, Value.int IntKind.u64 ↑c] 67)).drewN kq) (w.heap.size + 1) 32 [.int .u64 (e : Int), .int .u64 (c : Int)] := RowAt.alloc (by simpa using RowAt.new (w.alloc (Obj.cells #[Value.int IntKind.u64 ↑e, Value.int IntKind.u64 ↑c] 32)) [.int .u64 (e : Int), .int .u64 (c : Int)] 32) _
  have hW2 : RowAt ((((w.alloc (Obj.cells #[Value.int IntKind.u64 ↑e, Value.int IntKind.u64 ↑c] 32)).alloc (Obj.cells #[Value.int IntKind.u64 ↑e, Value.int IntKind.u64 ↑c] 32)).alloc (Obj.cells #[Value.int IntKind.u64 ↑e, Value.int IntKind.u64 ↑c, Value.int IntKind.u64 ↑c] 67)).drewN kq) (w.heap.size + 1 + 1) 67 (spc ⟨e, c, c⟩) := by
    have := RowAt.new ((w.alloc (Obj.cells #[Value.int IntKind.u64 ↑e, Value.int IntKind.u64 ↑c] 32)).alloc (Obj.cells #[Value.int IntKind.u64 ↑e, Value.int IntKind.u64 ↑c] 32)) (spc ⟨e, c, c⟩) 67
    have h2 : RowAt (((w.alloc (Obj.cells #[Value.int IntKind.u64 ↑e, Value.int IntKind.u64 ↑c] 32)).alloc (Obj.cells #[Value.int IntKind.u64 ↑e, Value.int IntKind.u64 ↑c] 32)).alloc (Obj.cells #[Value.int IntKind.u64 ↑e, Value.int IntKind.u64 ↑c, Value.int IntKind.u64 ↑c] 67)) (w.heap.size + 1 + 1) 67 (spc ⟨e, c, c⟩) := by simpa [spc] using this
    exact h2
  generalize ((((w.alloc (Obj.cells #[Value.int IntKind.u64 ↑e, Value.int IntKind.u64 ↑c] 32)).alloc (Obj.cells #[Value.int IntKind.u64 ↑e, Value.int IntKind.u64 ↑c] 32)).alloc (Obj.cells #[Value.int IntKind.u64 ↑e, Value.int IntKind.u64 ↑c, Value.int IntKind.u64 ↑c] 67)).drewN kq) = W at hWb hWs hW0 hW1 hW2 ⊢
  have hf0 : W.cell? ⟨w.heap.size, 0, none⟩ = some (.int .u64 (e : Int)) := hW0.cell 0
  have hf1 : W.cell? ⟨w.heap.size, 1, none⟩ = some (.int .u64 (c : Int)) := hW0.cell 1
  have hl0 : W.cell? ⟨w.heap.size + 1, 0, none⟩ = some (.int .u64 (e : Int)) := hW1.cell 0
  have hl1 : W.cell? ⟨w.heap.size + 1, 1, none⟩ = some (.int .u64 (c : Int)) := hW1.cell 1
  have hr0 : W.cell? ⟨w.heap.size + 1 + 1, 0, none⟩ = some (.int .u64 (e : Int)) := hW2.cell 0
  have hr1 : W.cell? ⟨w.heap.size + 1 + 1, 1, none⟩ = some (.int .u64 (c : Int)) := hW2.cell 1
  have hr2 : W.cell? ⟨w.heap.size + 1 + 1, 2, none⟩ = some (.int .u64 (c : Int)) := hW2.cell 2
  have HWB := hide hWb
  have HWS := hide hWs
  have HW0 := hide hW0
  have HW2 := hide hW2
  clear hWb hWs hW0 hW1 hW2
  replace hs0 := bsome HWB.out (Nat.le_refl _) hs0
  replace hs1 := bsome HWB.out (Nat.le_refl _) hs1
  replace hs2 := bsome HWB.out (Nat.le_refl _) hs2
  go_region_held3 (fun w' => Below w.heap.size w w' ∧ w.heap.size + 2 < w'.heap.size ∧ w'.cell? ⟨w.heap.size, 0, none⟩ = some (.int .u64 (e : Int)) ∧ w'.cell? ⟨w.heap.size, 1, none⟩ = some (.int .u64 (c : Int)) ∧ w'.cell? ⟨w.heap.size + 1, 0, none⟩ = some (.int .u64 (e : Int)) ∧ w'.cell? ⟨w.heap.size + 1, 1, none⟩ = some (.int .u64 (c : Int)) ∧ w'.cell? ⟨w.heap.size + 1 + 1, 0, none⟩ = some (.int .u64 (e : Int)) ∧ w'.cell? ⟨w.heap.size + 1 + 1, 1, none⟩ = some (.int .u64 (c : Int)) ∧ w'.cell? ⟨w.heap.size + 1 + 1, 2, none⟩ = some (.int .u64 (c : Int)) ∧ w'.cell? ⟨g, m * 3, none⟩ = some (.int .u64 (s.e : Int)) ∧ w'.cell? ⟨g, m * 3 + 1, none⟩ = some (.int .u64 (s.lo : Int)) ∧ w'.cell? ⟨g, m * 3 + 2, none⟩ = some (.int .u64 (s.hi : Int)) ∧ w'.heap[w.heap.size + 1 + 1]? = some (.cells (spc ⟨e, c, c⟩).toArray 67 (0, 0)))
    (first | (exact ⟨HWB.out.drew, by have := HWS.out; simp; omega, hf0, hf1, hl0, hl1, hr0, hr1, hr2, hs0, hs1, hs2, HW2.out⟩) | (go_split_ands; refine ⟨kstep ‹_› hb2 (by omega), by have := hb2.size; omega, bsome hb2 (Nat.le_refl _) ?_, bsome hb2 (Nat.le_refl _) ?_, bsome hb2 (Nat.le_refl _) ?_, bsome hb2 (Nat.le_refl _) ?_, bsome hb2 (Nat.le_refl _) ?_, bsome hb2 (Nat.le_refl _) ?_, bsome hb2 (Nat.le_refl _) ?_, bsome hb2 (Nat.le_refl _) ?_, bsome hb2 (Nat.le_refl _) ?_, bsome hb2 (Nat.le_refl _) ?_, by rw [hb2.block _ (by omega)]; assumption⟩ <;> assumption))
    (first
    | (go_at_call 16; refine (spanLast_any s.e s.lo s.hi _).mono ?_; unfold pos; rintro r w2 ⟨rfl, hb2⟩)
    | (go_at_call 17; refine (compare_any s.e s.hi e c _).mono ?_; rintro r w2 ⟨rfl, hb2⟩))
  rename_i hHeld
  clear HWB HWS HW0 HW2 hf0 hf1 hl0 hl1 hr0 hr1 hr2 hs0 hs1 hs2 hb2
  obtain ⟨hWb, hWs, hf0, hf1, hl0, hl1, hr0, hr1, hr2, hs0, hs1, hs2, hrun0⟩ := hHeld
  have HRUN : Hid (RowAt w2 (w.heap.size + 1 + 1) 67 (spc ⟨e, c, c⟩)) := hrun0
  clear hrun0
  have HWB := hide hWb
  have HWS := hide hWs
  clear hWb hWs
  have HPSW := hide (HPS.out.below HWB.out)
  have HC1 : Hid (0 < c → IntKind.u64.wrap ((c : Int) - 1) = ((c - 1 : Nat) : Int)) := by intro h0; rw [IntKind.wrap_u64]; omega
  go_upto_if 72 with fail
  go_cut [9] (fun v w5 => v = .pointer (some ⟨w2.heap.size, 0, none⟩) ∧ RowAt w5 w2.heap.size 32 [.int .u64 (e : Int), .int .u64 ((c - 1 : Nat) : Int)] ∧ Below w2.heap.size w2 w5)
  case first =>
    have hrf : RowAt (w2.alloc (Obj.cells #[Value.int IntKind.u64 ↑e, Value.int IntKind.u64 ↑c] 32)) w2.heap.size 32 [.int .u64 (e : Int), .int .u64 (c : Int)] := RowAt.new _ _ _
    by_cases h0 : 0 < c
    · have hcp : (0 : Int) < (c : Int) := by omega
      have hw := HC1.out h0
      go_wp2_with fail
      go_meet
      case rel =>
        exact ⟨rfl, RowAt.new _ [.int .u64 (e : Int), .int .u64 ((c - 1 : Nat) : Int)] 32, (Below.refl _ _).alloc (Nat.le_refl _) _⟩
    · have hcp : ¬ (0 : Int) < (c : Int) := by omega
      go_wp2_with fail
      go_meet
      case rel =>
        obtain rfl : c = 0 := by omega
        exact ⟨rfl, hrf, (Below.refl _ _).alloc (Nat.le_refl _) _⟩
  case rest =>
  obtain ⟨rfl, hrow5, hb5⟩ := hcut
  obtain ⟨V, hV⟩ : ∃ V, V = wc := ⟨_, rfl⟩
  subst hV
  have hWb5 : Below w.heap.size w V := kstep HWB.out hb5 HWB.out.size
  have HRUN5 : Hid (RowAt V (w.heap.size + 1 + 1) 67 (spc ⟨e, c, c⟩)) := RowAt.chg (F := fun _ => False) HRUN.out (Chg.of_below hb5) (fun h => h)
  have HROW5 := hide hrow5
  replace hf0 := bsome hb5 (Nat.le_refl _) hf0
  replace hf1 := bsome hb5 (Nat.le_refl _) hf1
  replace hl0 := bsome hb5 (Nat.le_refl _) hl0
  replace hl1 := bsome hb5 (Nat.le_refl _) hl1
  replace hr0 := bsome hb5 (Nat.le_refl _) hr0
  replace hr1 := bsome hb5 (Nat.le_refl _) hr1
  replace hr2 := bsome hb5 (Nat.le_refl _) hr2
  have hv0 : V.cell? ⟨w2.heap.size, 0, none⟩ = some (.int .u64 (e : Int)) := hrow5.cell 0
  have hv1 : V.cell? ⟨w2.heap.size, 1, none⟩ = some (.int .u64 ((c - 1 : Nat) : Int)) := hrow5.cell 1
  have hX0 := HWS.out
  have hX1 := hrow5.lt
  clear HPSW HWB HWS hs0 hs1 hs2 hb0 hb1 hcl hrow5 hb5 HC1 hb2 HRUN
  generalize w2.heap.size = X at hv0 hv1 hX0 hX1 HROW5 ⊢
  obtain ⟨d, hd⟩ : ∃ d, d = c - 1 := ⟨_, rfl⟩
  rw [← hd] at hv1 HROW5
  have HD := hide hd
  clear hd
  have HPSW := hide (HPS.out.below hWb5)
  go_wp2_with fail
  obtain ⟨Z, hZ⟩ : ∃ Z, Z = V.heap.size := ⟨_, rfl⟩
  have HZ := hide hZ
  clear hZ
  go_cut [10, 11] (fun pv tv w7 => ∃ P A1 R1, pv = .pointer (some ⟨P, 0, none⟩) ∧ Z ≤ P ∧ RowAt w7 P 89 [.int .i64 (plB A1 R1 : Int), .int .i64 (plI A1 R1 : Int)] ∧ Below V.heap.size V w7 ∧ LL = A1 ++ R1 ∧ (∀ t ∈ A1, t.under e d) ∧ (∀ t ∈ R1, ¬ t.under e d) ∧ tv = headV (.slice (some ⟨g, 0, none⟩) LL.length cg) A1 R1)
  case first =>
    go_region_held3 (fun w' => w'.cell? ⟨X, 0, none⟩ = some (.int .u64 (e : Int)) ∧ w'.cell? ⟨X, 1, none⟩ = some (.int .u64 (d : Int)))
      (first | (exact ⟨hv0, hv1⟩) | (exact ⟨acell hv0 _, acell hv1 _⟩) | (exact ⟨bsome hbF (Nat.le_refl _) hv0, bsome hbF (Nat.le_refl _) hv1⟩) | (exact ⟨bsome hbF (Nat.le_refl _) (acell hv0 _), bsome hbF (Nat.le_refl _) (acell hv1 _)⟩) | (exact ⟨acell (bsome hbF (Nat.le_refl _) hv0) _, acell (bsome hbF (Nat.le_refl _) hv1) _⟩) | (exact ⟨(cfar (by simp; omega)).trans ((cfar (by simp; omega)).trans (bsome hbF (Nat.le_refl _) (acell hv0 _))), (cfar (by simp; omega)).trans ((cfar (by simp; omega)).trans (bsome hbF (Nat.le_refl _) (acell hv1 _)))⟩) | fail)
      (first
      | (go_at_call 20; refine (find_PS base b (.slice (some ⟨hh, 0, none⟩) 1 cb) (.slice (some ⟨g, 0, none⟩) LL.length cg) LL e d _ (by first | exact HPSW.out.same rfl | exact (HPSW.out.below ((Below.refl _ _).alloc (Nat.le_refl _) _)).same rfl | fail) HG.out).mono ?_; unfold placeV; rintro r w6 ⟨⟨A1, R1, hsp, hA1, hR1, rfl⟩, hbF⟩; have HSPL := hide hsp; have HA1 := hide hA1; have HR1 := hide hR1; clear hsp hA1 hR1; first | (have hP := rowB hbF; have hPc := hP.cell; have hPf := hP.frozen) | skip))
    · go_wp2_with fail
      go_meet
      case rel =>
        have h1 := HZ.out
        have h2 := hbF.size
        simp at h2
        exact ⟨w6.heap.size, A1, R1, rfl, by omega, RowAt.new _ [.int .i64 (plB A1 R1 : Int), .int .i64 (plI A1 R1 : Int)] 89, (bel1 hbF).alloc (by simpa using h2) _, HSPL.out, HA1.out, HR1.out, rfl⟩
    · go_wp2_with fail
      go_meet
      case rel =>
        have h1 := HZ.out
        exact ⟨V.heap.size, A1, R1, rfl, by omega, (hP.setCell 0 (.int .i64 (plB A1 R1 : Int))).setCell 1 (.int .i64 (plI A1 R1 : Int)), (bel3 hbF).setCell (Nat.le_refl _) _ |>.setCell (Nat.le_refl _) _, HSPL.out, HA1.out, HR1.out, rfl⟩
  case rest =>
  obtain ⟨P, A1, R1, rfl, hZP, hrowP, hb7, hsp, hA1, hR1, rfl⟩ := hcut
  obtain ⟨V7, hV7⟩ : ∃ V7, V7 = wc := ⟨_, rfl⟩
  subst hV7
  have hdc : d ≤ c := by have := HD.out; omega
  obtain ⟨s1, R2, hR2⟩ : ∃ s1 R2, R1 = s1 :: R2 := by
    cases R1 with
    | cons a r => exact ⟨a, r, rfl⟩
    | nil =>
      exfalso
      have h1 : s ∈ A1 := by have h2 := HLL.out; rw [hsp, List.append_nil] at h2; rw [h2]; simp
      have h2 := hA1 s h1
      refine HU.out ?_
      unfold Sp.under at h2 ⊢
      omega
  subst hR2
  have hmem : memL LL e c ↔ s1.holds e c := by
    rw [hsp]
    exact mem_head A1 R2 s1 e c d HD.out (by rw [← hsp]; exact HG.out) hA1 hR1
  obtain ⟨q, hq⟩ : ∃ q, q = A1.length := ⟨_, rfl⟩
  have hhead : headV (.slice (some ⟨g, 0, none⟩) LL.length cg) A1 (s1 :: R2) = .pointer (some ⟨g, q * 3, none⟩) := by rw [hq]; rfl
  rw [hhead]
  have hWb7 : Below w.heap.size w V7 := kstep hWb5 hb7 hWb5.size
  have hPS7 := HPS.out.below hWb7
  have hspan : V7.cell? ⟨g, q * 3, none⟩ = some (.int .u64 (s1.e : Int)) ∧ V7.cell? ⟨g, q * 3 + 1, none⟩ = some (.int .u64 (s1.lo : Int)) ∧ V7.cell? ⟨g, q * 3 + 2, none⟩ = some (.int .u64 (s1.hi : Int)) := ps_span hPS7 q s1 (by rw [hsp, hq]; simp)
  obtain ⟨hs0, hs1, hs2⟩ := hspan
  replace hf0 := bsome hb7 (Nat.le_refl _) hf0
  replace hf1 := bsome hb7 (Nat.le_refl _) hf1
  replace hl0 := bsome hb7 (Nat.le_refl _) hl0
  replace hl1 := bsome hb7 (Nat.le_refl _) hl1
  replace hr0 := bsome hb7 (Nat.le_refl _) hr0
  replace hr1 := bsome hb7 (Nat.le_refl _) hr1
  replace hr2 := bsome hb7 (Nat.le_refl _) hr2
  replace hv0 := bsome hb7 (Nat.le_refl _) hv0
  replace hv1 := bsome hb7 (Nat.le_refl _) hv1
  have hXP : X < P := by have := HZ.out; omega
  have HRUN7 : Hid (RowAt V7 (w.heap.size + 1 + 1) 67 (spc ⟨e, c, c⟩)) := RowAt.chg (F := fun _ => False) HRUN5.out (Chg.of_below hb7) (fun h => h)
  have HROW7 : Hid (RowAt V7 X 32 [.int .u64 (e : Int), .int .u64 (d : Int)]) := RowAt.chg (F := fun _ => False) HROW5.out (Chg.of_below hb7) (fun h => h)
  have HSPL := hide hsp
  have HA1 := hide hA1
  have HR1 := hide hR1
  have HMEM := hide hmem
  have HPS7 := hide hPS7
  have HWB7 := hide hWb7
  have HROWP := hide hrowP
  have HQ := hide hq
  have hPlt := hrowP.lt
  clear hsp hA1 hR1 hmem hPS7 hWb7 hrowP hq hb7 hWb5 HPSW hhead
  by_cases hold : s1.holds e c
  · have hhas : hasP s1.e s1.lo s1.hi e c = true := by unfold hasP; unfold Sp.holds at hold; simp; omega
    go_wp2_with fail
    go_region_held3 (fun w' => w'.cell? ⟨w.heap.size, 0, none⟩ = some (.int .u64 (e : Int)) ∧ w'.cell? ⟨w.heap.size, 1, none⟩ = some (.int .u64 (c : Int)) ∧ w'.cell? ⟨w.heap.size + 1, 0, none⟩ = some (.int .u64 (e : Int)) ∧ w'.cell? ⟨w.heap.size + 1, 1, none⟩ = some (.int .u64 (c : Int)) ∧ w'.cell? ⟨g, q * 3, none⟩ = some (.int .u64 (s1.e : Int)) ∧ w'.cell? ⟨g, q * 3 + 1, none⟩ = some (.int .u64 (s1.lo : Int)) ∧ w'.cell? ⟨g, q * 3 + 2, none⟩ = some (.int .u64 (s1.hi : Int)))
      (first | (exact ⟨hf0, hf1, hl0, hl1, hs0, hs1, hs2⟩) | (go_split_ands; refine ⟨bsome hb8 (Nat.le_refl _) ?_, bsome hb8 (Nat.le_refl _) ?_, bsome hb8 (Nat.le_refl _) ?_, bsome hb8 (Nat.le_refl _) ?_, bsome hb8 (Nat.le_refl _) ?_, bsome hb8 (Nat.le_refl _) ?_, bsome hb8 (Nat.le_refl _) ?_⟩ <;> assumption) | fail)
      (first
      | (go_at_call 21; refine (has_is s1.e s1.lo s1.hi e c _ _ hhas).mono ?_; rintro r w8 ⟨rfl, hb8⟩; have hB8 := (by first | exact bel2 hB8 hb8 | exact bel1 hb8 | fail : Below V7.heap.size V7 w8)))
    all_goals
      go_wp2_with fail
      go_ret
      exact .inl ⟨HMEM.out.2 hold, rfl, kstep HWB7.out hB8 HWB7.out.size⟩
  · have hhas : hasP s1.e s1.lo s1.hi e c = false := by unfold hasP; unfold Sp.holds at hold; simp; omega
    go_wp2_with fail
    go_cut [96] (fun v w8 => v = .bool false ∧ Below V7.heap.size V7 w8)
    case first =>
      first | (go_region_with (go_at_call 21; refine (has_is s1.e s1.lo s1.hi e c _ _ hhas).mono ?_; rintro r w8 ⟨rfl, hb8⟩)) | fail
      all_goals
        go_wp2_with fail
        go_meet
        case rel => exact ⟨rfl, bel1 hb8⟩
    case rest =>
    obtain ⟨rfl, hb8⟩ := hcut
    have HLI0 := hide (LI.start HPS.out HPS7.out HWB7.out hb8 HROWP.out HSPL.out HG.out HR1.out HRUN7.out HROW7.out hX0 hXP hc5)
    have HNM2 : Hid (¬ memL LL e c) := fun hx => hold (HMEM.out.1 hx)
    have HFL : Hid (∀ k, Foot b (.slice (some ⟨hh, 0, none⟩) 1 cb) (.slice (some ⟨g, 0, none⟩) LL.length cg) k → k < w.heap.size) := fun k hk => (HPS.out.foot_lt hk).2
    clear hf0 hf1 hl0 hl1 hr0 hr1 hr2 hv0 hv1 hs0 hs1 hs2 HPS7 HROWP hhas hold HMEM hb8 hPlt hX1 HNF
    go_wp2_with fail
    go_loopg [11] (s1 :: R2).length (fun gk tv wr => ∃ R lo hi bv' sv', R.length ≤ gk ∧ tv = headV sv' A1 R ∧ LI w wr base b (.slice (some ⟨hh, 0, none⟩) 1 cb) (.slice (some ⟨g, 0, none⟩) LL.length cg) A1 (s1 :: R2) e c d (w.heap.size + 1 + 1) X P R lo hi bv' sv')
    case atStart => exact ⟨s1 :: R2, c, c, _, _, Nat.le_refl _, by rw [HQ.out]; rfl, HLI0.out⟩
    case round =>
      clear HLI0
      obtain ⟨R, lo, hi, bv', sv', hgk, rfl, hli⟩ := hrel
      have hrc := hli.run.cell
      unfold spc at hrc
      have HLI := hide hli
      have hlh := hli.lh
      have hhi5 := hli.h5
      clear hli
      obtain ⟨tp, htp⟩ : ∃ tp, headV sv' A1 R = tp := ⟨_, rfl⟩
      rw [htp]
      have HTP := hide htp
      clear htp
      go_upto_region 14 with fail
      go_cut [126] (fun v w9 => v = .bool (joinB e hi R) ∧ ∃ k, w9 = wr.drewN k)
      case first =>
        cases R with
        | nil =>
          obtain rfl : tp = .pointer none := HTP.out.symm
          go_quiet (fail)
          go_wp2_with fail
          go_meet
          case rel => exact ⟨rfl, _, rfl⟩
        | cons t R =>
          obtain ⟨h2, c2, g2, n2, e1, e2, _⟩ := HLI.out.ps.some (by simp)
          subst e1
          subst e2
          obtain rfl : tp = .pointer (some ⟨g2, q * 3, none⟩) := by rw [HQ.out]; exact HTP.out.symm
          obtain ⟨ht0, ht1, ht2⟩ := ps_span HLI.out.ps q t (by rw [HQ.out]; simp)
          have htsm := HLI.out.good.small t (by simp)
          by_cases c1 : t.e = e
          · have i1 : ((t.e : Int) == (e : Int)) = true := by simp; omega
            by_cases c2 : t.lo ≤ hi
            · have i2 : (t.lo : Int) ≤ (hi : Int) := by omega
              have hjb : joinB e hi (t :: R) = true := by simp [joinB, c1, c2]
              go_quiet (fail)
              go_wp2_with fail
              go_meet
              case rel => exact ⟨by rw [hjb], _, rfl⟩
            · have i2 : decide ((t.lo : Int) ≤ (hi : Int)) = false := by simp; omega
              have hw : IntKind.u64.wrap ((t.lo : Int) - 1) = (t.lo : Int) - 1 := by rw [IntKind.wrap_u64]; omega
              by_cases c3 : t.lo = hi + 1
              · have ht1' : wr.cell? ⟨g2, q * 3 + 1, none⟩ = some (.int .u64 ((hi : Int) + 1)) := by rw [ht1]; congr 2; omega
                have hw2 : IntKind.u64.wrap (hi : Int) = (hi : Int) := by rw [IntKind.wrap_u64]; omega
                have i2' : decide ((hi : Int) + 1 ≤ (hi : Int)) = false := by simp; omega
                clear ht1 i2 hw
                have hjb : joinB e hi (t :: R) = true := by simp [joinB, c1, c3]
                go_quiet (fail)
                go_wp2_with fail
                go_meet
                case rel => exact ⟨by rw [hjb], _, rfl⟩
              · have i3 : ((t.lo : Int) - 1 == (hi : Int)) = false := by simp; omega
                have hjb : joinB e hi (t :: R) = false := by simp [joinB, c1, c2, c3]
                go_quiet (fail)
                go_wp2_with fail
                go_meet
                case rel => exact ⟨by rw [hjb], _, rfl⟩
          · have i1 : ((t.e : Int) == (e : Int)) = false := by simp; omega
            have hjb : joinB e hi (t :: R) = false := by simp [joinB, c1]
            go_quiet (fail)
            go_wp2_with fail
            go_meet
            case rel => exact ⟨by rw [hjb], _, rfl⟩
      case rest =>
      obtain ⟨rfl, k9, hw9⟩ := hcut
      have HLI9 : Hid (LI w wc base b (.slice (some ⟨hh, 0, none⟩) 1 cb) (.slice (some ⟨g, 0, none⟩) LL.length cg) A1 (s1 :: R2) e c d (w.heap.size + 1 + 1) X P R lo hi bv' sv') := by rw [hw9]; exact HLI.out.drewN k9
      clear hrc HLI hw9
      by_cases hj : joinB e hi R = true
      · cases R with
        | nil => simp [joinB] at hj
        | cons t R =>
        obtain ⟨h2, c2, g2, n2, e1, e2, _⟩ := HLI9.out.ps.some (by simp)
        subst e1
        subst e2
        obtain rfl : tp = .pointer (some ⟨g2, q * 3, none⟩) := by rw [HQ.out]; exact HTP.out.symm
        obtain ⟨ht0, ht1, ht2⟩ := ps_span HLI9.out.ps q t (by rw [HQ.out]; simp)
        have hrr := HLI9.out.run
        have hrc := hrr.cell
        have hrf := hrr.frozen
        unfold spc at hrc
        have hgN : g2 ≠ w.heap.size + 1 + 1 := fun hx => (HLI9.out.nfoot HFL.out).1 (.inr (.inr (by rw [← hx]; rfl)))
        rw [hj]
        go_upto_region 15 with fail
        go_cut [11] (fun tv w10 => tv = .pointer (some ⟨g2, q * 3, none⟩) ∧ Chg (fun k => k = w.heap.size + 1 + 1) wc w10 ∧ RowAt w10 (w.heap.size + 1 + 1) 67 (spc ⟨e, min lo t.lo, max hi t.hi⟩))
        case first =>
          go_region
          have e1 : (if t.lo < lo then (t.lo : Int) else (lo : Int)) = ((min lo t.lo : Nat) : Int) := by split <;> omega
          have e2 : (if hi < t.hi then (t.hi : Int) else (hi : Int)) = ((max hi t.hi : Nat) : Int) := by split <;> omega
          rw [e1, e2]
          clear e1 e2
          go_wp2_with fail
          go_meet
          case rel =>
            exact ⟨rfl, (chg2 _ _ _ _ _ _).drew, (hrr.setCell 1 _).setCell 2 _⟩
        case rest =>
        obtain ⟨rfl, hc10, hrow10⟩ := hcut
        obtain ⟨V9, hV9⟩ : ∃ V9, V9 = wc := ⟨_, rfl⟩
        subst hV9
        obtain ⟨hps10, hpl10, hfr10, hch10⟩ := HLI9.out.grow HFL.out hc10
        have hnf := HLI9.out.nfoot HFL.out
        have hp0 : V9.cell? ⟨P, 0, none⟩ = some (.int .i64 (plB A1 (t :: R) : Int)) := hpl10.cell 0
        have hp1 : V9.cell? ⟨P, 1, none⟩ = some (.int .i64 (plI A1 (t :: R) : Int)) := hpl10.cell 1
        have HC10 := hide hc10
        have HROW10 := hide hrow10
        have HPS10 := hide hps10
        have HPL10 := hide hpl10
        have HFR10 := hide hfr10
        have HNF10 := hide hnf
        have hG10 := HLI9.out.good.len
        clear hc10 hrow10 hps10 hpl10 hfr10 hch10 hnf hrr hrc hrf ht0 ht1 ht2
        go_wp2_with fail
        go_region_held3 (fun w' => w'.cell? ⟨P, 0, none⟩ = some (.int .i64 (plB A1 (t :: R) : Int)) ∧ w'.cell? ⟨P, 1, none⟩ = some (.int .i64 (plI A1 (t :: R) : Int)))
          (first | (exact ⟨hp0, hp1⟩) | (exact ⟨csome hcR hp0 HNF10.out.2.2, csome hcR hp1 HNF10.out.2.2⟩) | fail)
          (first
          | (go_at_call 22; refine (remove_PS base b (.slice (some ⟨h2, 0, none⟩) 1 c2) (.slice (some ⟨g2, 0, none⟩) (A1 ++ t :: R).length n2) A1 R t _ (by exact HPS10.out.same rfl) hG10).mono ?_; rintro r wR ⟨rfl, bvR, svR, hpR, hcR', hfR⟩; have hcR := unDrewC hcR'; clear hcR'))
        rename_i hHeld
        obtain ⟨hp0R, hp1R⟩ := hHeld
        clear hp0 hp1
        have hplR := RowAt.chg HPL10.out hcR HNF10.out.2.2
        have hfrR := RowAt.chg HFR10.out hcR HNF10.out.2.1
        have hv0 : wR.cell? ⟨X, 0, none⟩ = some (.int .u64 (e : Int)) := hfrR.cell 0
        have hv1 : wR.cell? ⟨X, 1, none⟩ = some (.int .u64 (d : Int)) := hfrR.cell 1
        have HPLR := hide hplR
        have HCR := hide hcR
        have HFR := hide hfR
        have HPR := hide hpR
        have hnums := HLI9.out.nums
        have hGR : Good (A1 ++ R) := good_drop HLI9.out.good
        have HGR := hide hGR
        clear hplR hfrR hcR hfR hpR hGR
        go_wp2_with fail
        go_region_held3 (fun w' => w'.cell? ⟨X, 0, none⟩ = some (.int .u64 (e : Int)) ∧ w'.cell? ⟨X, 1, none⟩ = some (.int .u64 (d : Int)))
          (first | (exact ⟨hv0, hv1⟩) | (exact ⟨bsome hbF (Nat.le_refl _) hv0, bsome hbF (Nat.le_refl _) hv1⟩) | (exact ⟨(cfar (by simp; omega)).trans ((cfar (by simp; omega)).trans (bsome hbF (Nat.le_refl _) hv0)), (cfar (by simp; omega)).trans ((cfar (by simp; omega)).trans (bsome hbF (Nat.le_refl _) hv1))⟩) | fail)
          (first
          | (go_at_call 20; refine (find_PS base b bvR svR (A1 ++ R) e d _ (by exact HPR.out.same rfl) HGR.out).mono ?_; unfold placeV; rintro r w11 ⟨⟨A2, R3, hsp2, hA2, hR3, rfl⟩, hbF'⟩; have hbF := bel1 hbF'; clear hbF'; obtain ⟨rfl, rfl⟩ := split_uniq hsp2 HA1.out (fun t' ht' => HLI9.out.ov t' (by simp [ht'])) hA2 hR3; clear hsp2 hA2 hR3; have hP11 := RowAt.chg (F := fun _ => False) HPLR.out (Chg.of_below hbF) (fun h => h); have hPc := hP11.cell; have hPf := hP11.frozen))
        go_wp2_with fail
        go_roundg (gk - 1)
        case measure => simp at hgk; omega
        case rel =>
          refine ⟨R3, min lo t.lo, max hi t.hi, bvR, svR, by simp at hgk; omega, rfl, ?_⟩
          exact HLI9.out.next HFL.out hj HC10.out HROW10.out HPR.out HCR.out HFR.out hbF (chg2 _ _ _ _ _ _) ((hP11.setCell 0 (.int .i64 (plB A2 R3 : Int))).setCell 1 (.int .i64 (plI A2 R3 : Int)))
      · have hjf : joinB e hi R = false := by simpa using hj
        rw [hjf]
        go_wp2_with fail
        have hp0 : wc.cell? ⟨P, 0, none⟩ = some (.int .i64 (plB A1 R : Int)) := HLI9.out.place.cell 0
        have hp1 : wc.cell? ⟨P, 1, none⟩ = some (.int .i64 (plI A1 R : Int)) := HLI9.out.place.cell 1
        have hr0 : wc.cell? ⟨w.heap.size + 1 + 1, 0, none⟩ = some (.int .u64 (e : Int)) := HLI9.out.run.cell 0
        have hr1 : wc.cell? ⟨w.heap.size + 1 + 1, 1, none⟩ = some (.int .u64 (lo : Int)) := HLI9.out.run.cell 1
        have hr2 : wc.cell? ⟨w.heap.size + 1 + 1, 2, none⟩ = some (.int .u64 (hi : Int)) := HLI9.out.run.cell 2
        have HF3 := hide (HLI9.out.nfoot HFL.out)
        have hG9 := HLI9.out.good.len
        have hbs : base ≤ wc.heap.size := Nat.le_trans hbase HLI9.out.chg.size
        go_region_held3 (fun w' => w'.cell? ⟨P, 0, none⟩ = some (.int .i64 (plB A1 R : Int)) ∧ w'.cell? ⟨P, 1, none⟩ = some (.int .i64 (plI A1 R : Int)) ∧ w'.cell? ⟨w.heap.size + 1 + 1, 0, none⟩ = some (.int .u64 (e : Int)) ∧ w'.cell? ⟨w.heap.size + 1 + 1, 1, none⟩ = some (.int .u64 (lo : Int)) ∧ w'.cell? ⟨w.heap.size + 1 + 1, 2, none⟩ = some (.int .u64 (hi : Int)))
          (first | (exact ⟨hp0, hp1, hr0, hr1, hr2⟩) | (exact ⟨csome hcI hp0 HF3.out.2.2, csome hcI hp1 HF3.out.2.2, csome hcI hr0 HF3.out.1, csome hcI hr1 HF3.out.1, csome hcI hr2 HF3.out.1⟩) | fail)
          (first
          | (go_at_call 18; refine (insert_PS base b bv' sv' A1 R ⟨e, lo, hi⟩ _ (by exact HLI9.out.ps.same rfl) hG9 (by exact hbs)).mono ?_; rintro r wI ⟨rfl, bvI, svI, hpI, hcI', hfI⟩; have hcI := unDrewC hcI'; clear hcI'))
        go_wp2_with fail
        go_ret
        refine .inr ⟨HNM2.out, rfl, A1, s1 :: R2, HSPL.out, ?_, ?_, HLI9.out.done hjf hpI hcI hfI⟩
        · have := HD.out; rw [← this]; exact HA1.out
        · have := HD.out; rw [← this]; exact HR1.out
end Go.Proofs.Ybulkdaie.Scr
