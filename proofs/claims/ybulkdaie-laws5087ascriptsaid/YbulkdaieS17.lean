/-
  PosSet.Add above all that is there.
-/
import Derived.Test.YbulkdaieS16
namespace Go.Proofs.Ybulkdaie.Scr
open Go.RowKit
set_option linter.unusedVariables false
set_option linter.unusedSimpArgs false

set_option maxRecDepth 100000 in
theorem add_top1 (base b : Nat) (bv sv : Value) (A : List Sp) (s : Sp) (e c : Nat) (w : World) (h : PS w base b bv sv (A ++ [s])) (hG : Good (A ++ [s])) (hc5 : c ≤ 5) (hbase : base ≤ w.heap.size) (hu : s.under e c) (hno : s.e ≠ e) :
    Calls Yba.prog 10 #[.pointer (some ⟨b, 0, none⟩), pos e c, pos e c] w fun r w' => r = .returned (.bool true) ∧ AddPost base b bv sv w (A ++ [s] ++ [⟨e, c, c⟩]) w' := by
  obtain ⟨hh, cb, g, cg, rfl, rfl, hB, hS, hnc, hcb, hbh, hbg, hhg⟩ := h.some (by simp)
  have h18 := hG.len
  have H18 := hide hG.len
  have hsm := hG.small s (by simp)
  obtain ⟨n, hn⟩ : ∃ n, n = (A ++ [s]).length := ⟨_, rfl⟩
  obtain ⟨m, hm⟩ : ∃ m, m = A.length := ⟨_, rfl⟩
  have hnm : n = m + 1 := by rw [hn, hm]; simp
  obtain ⟨hs0, hs1, hs2⟩ := owns_spAt hS m s (by rw [hm]; simp)
  rw [← hn] at h18
  have hb0 : w.cell? ⟨b, 0, none⟩ = some (.slice (some ⟨hh, 0, none⟩) 1 cb) := h.row.cell 0
  have hb1 : w.cell? ⟨hh, 0, none⟩ = some (.slice (some ⟨g, 0, none⟩) n cg) := by rw [hn]; exact owns_cell0 hB
  have hbl : b < w.heap.size := h.row.lt
  have hgl : g < w.heap.size := (hS.lt g rfl).2
  have HPS := hide h
  have HNF : Hid (¬ Foot b (.slice (some ⟨hh, 0, none⟩) 1 cb) (.slice (some ⟨g, 0, none⟩) (A ++ [s]).length cg) (w.heap.size + 1 + 1)) := by intro hk; have := (h.foot_lt hk).2; omega
  have hcl : cmpP s.e s.hi e c < 0 := (cmpP_under s e c).2 hu
  have HNM := hide hnm
  have HN := hide hn
  have HM := hide hm
  obtain ⟨LL, hLL⟩ : ∃ LL, LL = A ++ [s] := ⟨_, rfl⟩
  rw [← hLL] at HPS H18 HNF ⊢
  have HLL := hide hLL
  obtain ⟨hse, hslo, hshi⟩ := hsm
  clear h hB hS hn hm hnm hu hnc hLL hG
  have hee : ((s.e : Int) == (e : Int)) = false := by simp; omega
  clear hno
  unfold pos
  go_enter Yba.func10, Yba.ntmps10
  go_wp2_with (go_at_call 15; refine (last_one b hh g n m cb cg _ (by exact acell (acell (acell hb0 _) _) _) (by exact acell (acell (acell hb1 _) _) _) HNM.out (by have := HNM.out; omega)).mono ?_; rintro r w2 ⟨rfl, kq, hw2⟩; rw [hw2]; clear hw2 w2)
  have hWb : Below w.heap.size w ((((w.alloc (Obj.cells #[Value.int IntKind.u64 ↑e, Value.int IntKind.u64 ↑c] 32)).alloc (Obj.cells #[Value.int IntKind.u64 ↑e, Value.int IntKind.u64 ↑c] 32)).alloc (Obj.cells #[Value.int IntKind.u64 ↑e, Value.int IntKind.u64 ↑c, Value.int IntKind.u64 ↑c] 67)).drewN kq) := below_drewN ((((Below.refl _ _).alloc (Nat.le_refl _) _).alloc (by simp) _).alloc (by simp; omega) _) _
  have hWs : ((((w.alloc (Obj.cells #[Value.int IntKind.u64 ↑e, Value.int IntKind.u64 ↑c] 32)).alloc (Obj.cells #[Value.int IntKind.u64 ↑e, Value.int IntKind.u64 ↑c] 32)).alloc (Obj.cells #[Value.int IntKind.u64 ↑e, Value.int IntKind.u64 ↑c, Value.int IntKind.u64 ↑c] 67)).drewN kq).heap.size = w.heap.size + 3 := by simp
  have hW0 : RowAt ((((w.alloc (Obj.cells #[Value.int IntKind.u64 ↑e, Value.int IntKind.u64 ↑c] 32)).alloc (Obj.cells #[Value.int IntKind.u64 ↑e, Value.int IntKind.u64 ↑c] 32)).alloc (Obj.cells #[Value.int IntKind.u64 ↑e, Value.int IntKind.u64 ↑c, Value.int IntKind.u64 ↑c] 67)).drewN kq) w.heap.size 32 [.int .u64 (e : Int), .int .u64 (c : Int)] := RowAt.alloc (RowAt.alloc (RowAt.new w [.int .u64 (e : Int), .int .u64 (c : Int)] 32) _) _
  have hW1 : RowAt ((((w.alloc (Obj.cells #[Value.int IntKind.u64 ↑e, Value.int IntKind.u64 ↑c] 32)).alloc (Obj.cells #[Value.int IntKind.u64 ↑e, Value.int IntKind.u64 ↑c] 32)).alloc (Obj.cells #[Value.int IntKind.u64 ↑e, Value.int IntKind.u64 ↑c, Value.int IntKind.u64 ↑c] 67)).drewN kq) (w.heap.size + 1) 32 [.int .u64 (e : Int), .int .u64 (c : Int)] := RowAt.alloc (by simpa using RowAt.new (w.alloc (Obj.cells #[Value.int IntKind.u64 ↑e, Value.int IntKind.u64 ↑c] 32)) [.int .u64 (e : Int), .int .u64 (c : Int)] 32) _
  have hW2 : RowAt ((((w.alloc (Obj.cells #[Value.int IntKind.u64 ↑e, Value.int IntKind.u64 ↑c] 32)).alloc (Obj.cells #[Value.int IntKind.u64 ↑e, Value.int IntKind.u64 ↑c] 32)).alloc (Obj.cells #[Value.int IntKind.u64 ↑e, Value.int IntKind.u64 ↑c, Value.int IntKind.u64 ↑c] 67)).drewN kq) (w.heap.size + 1 + 1) 67 (spc ⟨e, c, c⟩) := by
    have := RowAt.new ((w.alloc (Obj.cells #[Value.int IntKind.u64 ↑e, Value.int IntKind.u64 ↑c] 32)).alloc (Obj.cells #[Value.int IntKind.u64 ↑e, Value.int IntKind.u64 ↑c] 32)) (spc ⟨e, c, c⟩) 67
    have h2 : RowAt (((w.alloc (Obj.cells #[Value.int IntKind.u64 ↑e, Value.int IntKind.u64 ↑c] 32)).alloc (Obj.cells #[Value.int IntKind.u64 ↑e, Value.int IntKind.u64 ↑c] 32)).alloc (Obj.cells #[Value.int IntKind.u64 ↑e, Value.int IntKind.u64 ↑c, Value.int IntKind.u64 ↑c] 67)) (w.heap.size + 1 + 1) 67 (spc ⟨e, c, c⟩) := by simpa [spc] using this
    exact h2
  generalize ((((w.alloc (Obj.cells #[Value.int IntKind.u64 ↑e, Value.int IntKind.u64 ↑c] 32)).alloc (Obj.cells #[Value.int IntKind.u64 ↑e, Value.int IntKind.u64 ↑c] 32)).alloc (Obj.cells #[Value.int IntKind.u64 ↑e, Value.int IntKind.u64 ↑c, Value.int IntKind.u64 ↑c] 67)).drewN kq) = W at hWb hWs hW0 hW1 hW2 ⊢
  have hf0 : W.cell? ⟨w.heap.size, 0, none⟩ = some (.int .u64 (e : Int)) := hW0.cell 0
  have hf1 : W.cell? ⟨w.heap.size, 1, none⟩ = some (.int .u64 (c : Int)) := hW0.cell 1
  have hl0 : W.cell? ⟨w.heap.size + 1, 0, none⟩ = some (.int .u64 (e : Int)) := hW1.cell 0
  have hl1 : W.cell? ⟨w.heap.size + 1, 1, none⟩ = some (.int .u64 (c : Int)) := hW1.cell 1
  have hr0 : W.cell? ⟨w.heap.size + 1 + 1, 0, none⟩ = some (.int .u64 (e : Int)) := hW2.cell 0
  have hr1 : W.cell? ⟨w.heap.size + 1 + 1, 1, none⟩ = some (.int .u64 (c : Int)) := hW2.cell 1
  have hr2 : W.cell? ⟨w.heap.size + 1 + 1, 2, none⟩ = some (.int .u64 (c : Int)) := hW2.cell 2
  have HWB := hide hWb
  have HWS := hide hWs
  have HW0 := hide hW0
  have HW2 := hide hW2
  clear hWb hWs hW0 hW1 hW2
  replace hs0 := bsome HWB.out (Nat.le_refl _) hs0
  replace hs1 := bsome HWB.out (Nat.le_refl _) hs1
  replace hs2 := bsome HWB.out (Nat.le_refl _) hs2
  go_region_held3 (fun w' => Below w.heap.size w w' ∧ w.heap.size + 2 < w'.heap.size ∧ w'.cell? ⟨w.heap.size, 0, none⟩ = some (.int .u64 (e : Int)) ∧ w'.cell? ⟨w.heap.size, 1, none⟩ = some (.int .u64 (c : Int)) ∧ w'.cell? ⟨w.heap.size + 1, 0, none⟩ = some (.int .u64 (e : Int)) ∧ w'.cell? ⟨w.heap.size + 1, 1, none⟩ = some (.int .u64 (c : Int)) ∧ w'.cell? ⟨w.heap.size + 1 + 1, 0, none⟩ = some (.int .u64 (e : Int)) ∧ w'.cell? ⟨w.heap.size + 1 + 1, 1, none⟩ = some (.int .u64 (c : Int)) ∧ w'.cell? ⟨w.heap.size + 1 + 1, 2, none⟩ = some (.int .u64 (c : Int)) ∧ w'.cell? ⟨g, m * 3, none⟩ = some (.int .u64 (s.e : Int)) ∧ w'.cell? ⟨g, m * 3 + 1, none⟩ = some (.int .u64 (s.lo : Int)) ∧ w'.cell? ⟨g, m * 3 + 2, none⟩ = some (.int .u64 (s.hi : Int)))
    (first | (exact ⟨HWB.out.drew, by have := HWS.out; simp; omega, hf0, hf1, hl0, hl1, hr0, hr1, hr2, hs0, hs1, hs2⟩) | (go_split_ands; refine ⟨kstep ‹_› hb2 (by omega), by have := hb2.size; omega, bsome hb2 (Nat.le_refl _) ?_, bsome hb2 (Nat.le_refl _) ?_, bsome hb2 (Nat.le_refl _) ?_, bsome hb2 (Nat.le_refl _) ?_, bsome hb2 (Nat.le_refl _) ?_, bsome hb2 (Nat.le_refl _) ?_, bsome hb2 (Nat.le_refl _) ?_, bsome hb2 (Nat.le_refl _) ?_, bsome hb2 (Nat.le_refl _) ?_, bsome hb2 (Nat.le_refl _) ?_⟩ <;> assumption))
    (first
    | (go_at_call 16; refine (spanLast_any s.e s.lo s.hi _).mono ?_; unfold pos; rintro r w2 ⟨rfl, hb2⟩)
    | (go_at_call 17; refine (compare_any s.e s.hi e c _).mono ?_; rintro r w2 ⟨rfl, hb2⟩))
  rename_i hHeld
  clear HWB HWS HW0 HW2 hf0 hf1 hl0 hl1 hr0 hr1 hr2 hs0 hs1 hs2 hb2
  obtain ⟨hWb, hWs, hf0, hf1, hl0, hl1, hr0, hr1, hr2, hs0, hs1, hs2⟩ := hHeld
  have HWB := hide hWb
  have HWS := hide hWs
  clear hWb hWs
  have HPSW := hide (HPS.out.below HWB.out)
  go_wp2_with fail
  go_quiet (fail)
  go_wp2_with fail
  go_region_held3 (fun w' => w'.cell? ⟨w.heap.size + 1 + 1, 0, none⟩ = some (.int .u64 (e : Int)) ∧ w'.cell? ⟨w.heap.size + 1 + 1, 1, none⟩ = some (.int .u64 (c : Int)) ∧ w'.cell? ⟨w.heap.size + 1 + 1, 2, none⟩ = some (.int .u64 (c : Int)))
    (first | (exact ⟨hr0, hr1, hr2⟩) | (exact ⟨csome hcI hsE0 HNF.out, csome hcI hsE1 HNF.out, csome hcI hsE2 HNF.out⟩) | (exact ⟨bsome hbE (Nat.le_refl _) hr0, bsome hbE (Nat.le_refl _) hr1, bsome hbE (Nat.le_refl _) hr2⟩))
    (first
    | (go_at_call 19; refine (end_PS base b (.slice (some ⟨hh, 0, none⟩) 1 cb) (.slice (some ⟨g, 0, none⟩) LL.length cg) LL _ (by exact HPSW.out.same rfl)).mono ?_; unfold placeV; rintro r wE ⟨rfl, hbE'⟩; have hbE := unDrew hbE'; clear hbE'; have hsE0 := bsome (a := ⟨w.heap.size + 1 + 1, 0, none⟩) hbE (Nat.le_refl _) hr0; have hsE1 := bsome (a := ⟨w.heap.size + 1 + 1, 1, none⟩) hbE (Nat.le_refl _) hr1; have hsE2 := bsome (a := ⟨w.heap.size + 1 + 1, 2, none⟩) hbE (Nat.le_refl _) hr2)
    | (go_at_call 18; refine (insert_PS base b (.slice (some ⟨hh, 0, none⟩) 1 cb) (.slice (some ⟨g, 0, none⟩) LL.length cg) LL [] ⟨e, c, c⟩ wE (by rw [List.append_nil]; exact HPSW.out.below hbE) (by rw [List.append_nil]; exact H18.out) (by have := hbE.size; have := HWS.out; omega)).mono ?_; rintro r wI ⟨rfl, bvI, svI, hpI, hcI, hfI⟩))
  go_wp2_with fail
  go_ret
  refine ⟨rfl, AddPost.of (kstep HWB.out hbE (by have := HWS.out; omega)) HPS.out ?_ hcI hfI⟩
  exact hpI

set_option maxRecDepth 100000 in
theorem add_top2 (base b : Nat) (bv sv : Value) (A : List Sp) (s : Sp) (e c : Nat) (w : World) (h : PS w base b bv sv (A ++ [s])) (hG : Good (A ++ [s])) (hc5 : c ≤ 5) (hbase : base ≤ w.heap.size) (hu : s.under e c) (hye : s.e = e) (hno : s.hi + 1 ≠ c) :
    Calls Yba.prog 10 #[.pointer (some ⟨b, 0, none⟩), pos e c, pos e c] w fun r w' => r = .returned (.bool true) ∧ AddPost base b bv sv w (A ++ [s] ++ [⟨e, c, c⟩]) w' := by
  obtain ⟨hh, cb, g, cg, rfl, rfl, hB, hS, hnc, hcb, hbh, hbg, hhg⟩ := h.some (by simp)
  have h18 := hG.len
  have H18 := hide hG.len
  have hsm := hG.small s (by simp)
  obtain ⟨n, hn⟩ : ∃ n, n = (A ++ [s]).length := ⟨_, rfl⟩
  obtain ⟨m, hm⟩ : ∃ m, m = A.length := ⟨_, rfl⟩
  have hnm : n = m + 1 := by rw [hn, hm]; simp
  obtain ⟨hs0, hs1, hs2⟩ := owns_spAt hS m s (by rw [hm]; simp)
  rw [← hn] at h18
  have hb0 : w.cell? ⟨b, 0, none⟩ = some (.slice (some ⟨hh, 0, none⟩) 1 cb) := h.row.cell 0
  have hb1 : w.cell? ⟨hh, 0, none⟩ = some (.slice (some ⟨g, 0, none⟩) n cg) := by rw [hn]; exact owns_cell0 hB
  have hbl : b < w.heap.size := h.row.lt
  have hgl : g < w.heap.size := (hS.lt g rfl).2
  have HPS := hide h
  have HNF : Hid (¬ Foot b (.slice (some ⟨hh, 0, none⟩) 1 cb) (.slice (some ⟨g, 0, none⟩) (A ++ [s]).length cg) (w.heap.size + 1 + 1)) := by intro hk; have := (h.foot_lt hk).2; omega
  have hcl : cmpP s.e s.hi e c < 0 := (cmpP_under s e c).2 hu
  have HNM := hide hnm
  have HN := hide hn
  have HM := hide hm
  obtain ⟨LL, hLL⟩ : ∃ LL, LL = A ++ [s] := ⟨_, rfl⟩
  rw [← hLL] at HPS H18 HNF ⊢
  have HLL := hide hLL
  obtain ⟨hse, hslo, hshi⟩ := hsm
  clear h hB hS hn hm hnm hu hnc hLL hG
  have hee : ((s.e : Int) == (e : Int)) = true := by simp; omega
  have hw : IntKind.u64.wrap ((s.hi : Int) + 1) = (s.hi : Int) + 1 := by rw [IntKind.wrap_u64]; omega
  have hhc : ((s.hi : Int) + 1 == (c : Int)) = false := by simp; omega
  clear hno hye
  unfold pos
  go_enter Yba.func10, Yba.ntmps10
  go_wp2_with (go_at_call 15; refine (last_one b hh g n m cb cg _ (by exact acell (acell (acell hb0 _) _) _) (by exact acell (acell (acell hb1 _) _) _) HNM.out (by have := HNM.out; omega)).mono ?_; rintro r w2 ⟨rfl, kq, hw2⟩; rw [hw2]; clear hw2 w2)
  have hWb : Below w.heap.size w ((((w.alloc (Obj.cells #[Value.int IntKind.u64 ↑e, Value.int IntKind.u64 ↑c] 32)).alloc (Obj.cells #[Value.int IntKind.u64 ↑e, Value.int IntKind.u64 ↑c] 32)).alloc (Obj.cells #[Value.int IntKind.u64 ↑e, Value.int IntKind.u64 ↑c, Value.int IntKind.u64 ↑c] 67)).drewN kq) := below_drewN ((((Below.refl _ _).alloc (Nat.le_refl _) _).alloc (by simp) _).alloc (by simp; omega) _) _
  have hWs : ((((w.alloc (Obj.cells #[Value.int IntKind.u64 ↑e, Value.int IntKind.u64 ↑c] 32)).alloc (Obj.cells #[Value.int IntKind.u64 ↑e, Value.int IntKind.u64 ↑c] 32)).alloc (Obj.cells #[Value.int IntKind.u64 ↑e, Value.int IntKind.u64 ↑c, Value.int IntKind.u64 ↑c] 67)).drewN kq).heap.size = w.heap.size + 3 := by simp
  have hW0 : RowAt ((((w.alloc (Obj.cells #[Value.int IntKind.u64 ↑e, Value.int IntKind.u64 ↑c] 32)).alloc (Obj.cells #[Value.int IntKind.u64 ↑e, Value.int IntKind.u64 ↑c] 32)).alloc (Obj.cells #[Value.int IntKind.u64 ↑e, Value.int IntKind.u64 ↑c, Value.int IntKind.u64 ↑c] 67)).drewN kq) w.heap.size 32 [.int .u64 (e : Int), .int .u64 (c : Int)] := RowAt.alloc (RowAt.alloc (RowAt.new w [.int .u64 (e : Int), .int .u64 (c : Int)] 32) _) _
  have hW1 : RowAt ((((w.alloc (Obj.cells #[Value.int IntKind.u64 ↑e, Value.int IntKind.u64 ↑c] 32)).alloc (Obj.cells #[Value.int IntKind.u64 ↑e, Value.int IntKind.u64 ↑c] 32)).alloc (Obj.cells #[Value.int IntKind.u64 ↑e, Value.int IntKind.u64 ↑c, Value.int IntKind.u64 ↑c] 67)).drewN kq) (w.heap.size + 1) 32 [.int .u64 (e : Int), .int .u64 (c : Int)] := RowAt.alloc (by simpa using RowAt.new (w.alloc (Obj.cells #[Value.int IntKind.u64 ↑e, Value.int IntKind.u64 ↑c] 32)) [.int .u64 (e : Int), .int .u64 (c : Int)] 32) _
  have hW2 : RowAt ((((w.alloc (Obj.cells #[Value.int IntKind.u64 ↑e, Value.int IntKind.u64 ↑c] 32)).alloc (Obj.cells #[Value.int IntKind.u64 ↑e, Value.int IntKind.u64 ↑c] 32)).alloc (Obj.cells #[Value.int IntKind.u64 ↑e, Value.int IntKind.u64 ↑c, Value.int IntKind.u64 ↑c] 67)).drewN kq) (w.heap.size + 1 + 1) 67 (spc ⟨e, c, c⟩) := by
    have := RowAt.new ((w.alloc (Obj.cells #[Value.int IntKind.u64 ↑e, Value.int IntKind.u64 ↑c] 32)).alloc (Obj.cells #[Value.int IntKind.u64 ↑e, Value.int IntKind.u64 ↑c] 32)) (spc ⟨e, c, c⟩) 67
    have h2 : RowAt (((w.alloc (Obj.cells #[Value.int IntKind.u64 ↑e, Value.int IntKind.u64 ↑c] 32)).alloc (Obj.cells #[Value.int IntKind.u64 ↑e, Value.int IntKind.u64 ↑c] 32)).alloc (Obj.cells #[Value.int IntKind.u64 ↑e, Value.int IntKind.u64 ↑c, Value.int IntKind.u64 ↑c] 67)) (w.heap.size + 1 + 1) 67 (spc ⟨e, c, c⟩) := by simpa [spc] using this
    exact h2
  generalize ((((w.alloc (Obj.cells #[Value.int IntKind.u64 ↑e, Value.int IntKind.u64 ↑c] 32)).alloc (Obj.cells #[Value.int IntKind.u64 ↑e, Value.int IntKind.u64 ↑c] 32)).alloc (Obj.cells #[Value.int IntKind.u64 ↑e, Value.int IntKind.u64 ↑c, Value.int IntKind.u64 ↑c] 67)).drewN kq) = W at hWb hWs hW0 hW1 hW2 ⊢
  have hf0 : W.cell? ⟨w.heap.size, 0, none⟩ = some (.int .u64 (e : Int)) := hW0.cell 0
  have hf1 : W.cell? ⟨w.heap.size, 1, none⟩ = some (.int .u64 (c : Int)) := hW0.cell 1
  have hl0 : W.cell? ⟨w.heap.size + 1, 0, none⟩ = some (.int .u64 (e : Int)) := hW1.cell 0
  have hl1 : W.cell? ⟨w.heap.size + 1, 1, none⟩ = some (.int .u64 (c : Int)) := hW1.cell 1
  have hr0 : W.cell? ⟨w.heap.size + 1 + 1, 0, none⟩ = some (.int .u64 (e : Int)) := hW2.cell 0
  have hr1 : W.cell? ⟨w.heap.size + 1 + 1, 1, none⟩ = some (.int .u64 (c : Int)) := hW2.cell 1
  have hr2 : W.cell? ⟨w.heap.size + 1 + 1, 2, none⟩ = some (.int .u64 (c : Int)) := hW2.cell 2
  have HWB := hide hWb
  have HWS := hide hWs
  have HW0 := hide hW0
  have HW2 := hide hW2
  clear hWb hWs hW0 hW1 hW2
  replace hs0 := bsome HWB.out (Nat.le_refl _) hs0
  replace hs1 := bsome HWB.out (Nat.le_refl _) hs1
  replace hs2 := bsome HWB.out (Nat.le_refl _) hs2
  go_region_held3 (fun w' => Below w.heap.size w w' ∧ w.heap.size + 2 < w'.heap.size ∧ w'.cell? ⟨w.heap.size, 0, none⟩ = some (.int .u64 (e : Int)) ∧ w'.cell? ⟨w.heap.size, 1, none⟩ = some (.int .u64 (c : Int)) ∧ w'.cell? ⟨w.heap.size + 1, 0, none⟩ = some (.int .u64 (e : Int)) ∧ w'.cell? ⟨w.heap.size + 1, 1, none⟩ = some (.int .u64 (c : Int)) ∧ w'.cell? ⟨w.heap.size + 1 + 1, 0, none⟩ = some (.int .u64 (e : Int)) ∧ w'.cell? ⟨w.heap.size + 1 + 1, 1, none⟩ = some (.int .u64 (c : Int)) ∧ w'.cell? ⟨w.heap.size + 1 + 1, 2, none⟩ = some (.int .u64 (c : Int)) ∧ w'.cell? ⟨g, m * 3, none⟩ = some (.int .u64 (s.e : Int)) ∧ w'.cell? ⟨g, m * 3 + 1, none⟩ = some (.int .u64 (s.lo : Int)) ∧ w'.cell? ⟨g, m * 3 + 2, none⟩ = some (.int .u64 (s.hi : Int)))
    (first | (exact ⟨HWB.out.drew, by have := HWS.out; simp; omega, hf0, hf1, hl0, hl1, hr0, hr1, hr2, hs0, hs1, hs2⟩) | (go_split_ands; refine ⟨kstep ‹_› hb2 (by omega), by have := hb2.size; omega, bsome hb2 (Nat.le_refl _) ?_, bsome hb2 (Nat.le_refl _) ?_, bsome hb2 (Nat.le_refl _) ?_, bsome hb2 (Nat.le_refl _) ?_, bsome hb2 (Nat.le_refl _) ?_, bsome hb2 (Nat.le_refl _) ?_, bsome hb2 (Nat.le_refl _) ?_, bsome hb2 (Nat.le_refl _) ?_, bsome hb2 (Nat.le_refl _) ?_, bsome hb2 (Nat.le_refl _) ?_⟩ <;> assumption))
    (first
    | (go_at_call 16; refine (spanLast_any s.e s.lo s.hi _).mono ?_; unfold pos; rintro r w2 ⟨rfl, hb2⟩)
    | (go_at_call 17; refine (compare_any s.e s.hi e c _).mono ?_; rintro r w2 ⟨rfl, hb2⟩))
  rename_i hHeld
  clear HWB HWS HW0 HW2 hf0 hf1 hl0 hl1 hr0 hr1 hr2 hs0 hs1 hs2 hb2
  obtain ⟨hWb, hWs, hf0, hf1, hl0, hl1, hr0, hr1, hr2, hs0, hs1, hs2⟩ := hHeld
  have HWB := hide hWb
  have HWS := hide hWs
  clear hWb hWs
  have HPSW := hide (HPS.out.below HWB.out)
  go_wp2_with fail
  go_quiet (fail)
  go_wp2_with fail
  go_region_held3 (fun w' => w'.cell? ⟨w.heap.size + 1 + 1, 0, none⟩ = some (.int .u64 (e : Int)) ∧ w'.cell? ⟨w.heap.size + 1 + 1, 1, none⟩ = some (.int .u64 (c : Int)) ∧ w'.cell? ⟨w.heap.size + 1 + 1, 2, none⟩ = some (.int .u64 (c : Int)))
    (first | (exact ⟨hr0, hr1, hr2⟩) | (exact ⟨csome hcI hsE0 HNF.out, csome hcI hsE1 HNF.out, csome hcI hsE2 HNF.out⟩) | (exact ⟨bsome hbE (Nat.le_refl _) hr0, bsome hbE (Nat.le_refl _) hr1, bsome hbE (Nat.le_refl _) hr2⟩))
    (first
    | (go_at_call 19; refine (end_PS base b (.slice (some ⟨hh, 0, none⟩) 1 cb) (.slice (some ⟨g, 0, none⟩) LL.length cg) LL _ (by exact HPSW.out.same rfl)).mono ?_; unfold placeV; rintro r wE ⟨rfl, hbE'⟩; have hbE := unDrew hbE'; clear hbE'; have hsE0 := bsome (a := ⟨w.heap.size + 1 + 1, 0, none⟩) hbE (Nat.le_refl _) hr0; have hsE1 := bsome (a := ⟨w.heap.size + 1 + 1, 1, none⟩) hbE (Nat.le_refl _) hr1; have hsE2 := bsome (a := ⟨w.heap.size + 1 + 1, 2, none⟩) hbE (Nat.le_refl _) hr2)
    | (go_at_call 18; refine (insert_PS base b (.slice (some ⟨hh, 0, none⟩) 1 cb) (.slice (some ⟨g, 0, none⟩) LL.length cg) LL [] ⟨e, c, c⟩ wE (by rw [List.append_nil]; exact HPSW.out.below hbE) (by rw [List.append_nil]; exact H18.out) (by have := hbE.size; have := HWS.out; omega)).mono ?_; rintro r wI ⟨rfl, bvI, svI, hpI, hcI, hfI⟩))
  go_wp2_with fail
  go_ret
  refine ⟨rfl, AddPost.of (kstep HWB.out hbE (by have := HWS.out; omega)) HPS.out ?_ hcI hfI⟩
  exact hpI

end Go.Proofs.Ybulkdaie.Scr
