import Derived.Test.YbulkdagoKit
import Derived.Deep.DeepCutAuto
namespace Go.Proofs.Ybulkdago
open Go.RowKit

/-- Where Param stands: the boxed argument, the result's cells, the row that is filled. -/
structure PS (w wx : World) (P L : List Value) : Prop where
  p : RowAt wx w.heap.size 25 P
  q : RowAt wx (w.heap.size + 1) 29 [.int .u16 0, .slice none 0 0]
  r : RowAt wx (w.heap.size + 2) 5 L
  below : Below w.heap.size w wx

theorem PS.grown {w wx w2 : World} {P L L' : List Value} (h : PS w wx P L) (hr : RowAt w2 (w.heap.size + 2) 5 L') (hg : wx.grownBy w2 (some (w.heap.size + 2))) : PS w w2 P L' :=
  ⟨h.p.grown hg (by simp), h.q.grown hg (by simp), hr, h.below.grown hg h.below.size (by intro k hk; cases hk; omega)⟩
theorem PS.drew {w wx : World} {P L : List Value} (h : PS w wx P L) : PS w wx.drew P L := ⟨h.p, h.q, h.r, h.below.drew⟩
theorem PS.setCell {w wx : World} {P L : List Value} (h : PS w wx P L) (j : Nat) (v : Value) : PS w (wx.setCell ⟨w.heap.size + 2, j, none⟩ v) P (L.set j v) :=
  h.grown (h.r.setCell j v) (grown_setCell (World.grownBy.refl _ _) j v)

theorem PS.made {w w1 : World} {P L : List Value} (hr : RowAt w1 ((w.alloc (.cells P.toArray 25)).alloc (.cells #[.int .u16 0, .slice none 0 0] 29)).heap.size 5 L) (hg : ((w.alloc (.cells P.toArray 25)).alloc (.cells #[.int .u16 0, .slice none 0 0] 29)).grownBy w1 none) : PS w w1 P L :=
  ⟨((RowAt.new w P 25).alloc _).grown hg (by simp), by simpa using (RowAt.new (w.alloc (.cells P.toArray 25)) [.int .u16 0, .slice none 0 0] 29).grown hg (by simp), by simpa using hr,
    (((Below.refl _ _).alloc (Nat.le_refl _) _).alloc (by simp) _).grown hg (by simp; omega) (by intro k hk; cases hk)⟩

theorem fill8 (n : Nat) (z a0 a1 a2 a3 a4 a5 a6 a7 : Value) : (((((((((List.replicate (12 + n) z).set 0 a0).set (0 + 1) a1).set (0 + 2) a2).set (0 + 3) a3).set 4 a4).set (4 + 1) a5).set (4 + 2) a6).set (4 + 3) a7) = [a0, a1, a2, a3, a4, a5, a6, a7] ++ List.replicate (4 + n) z := by
  rw [show 12 + n = (4 + n) + 8 by omega]
  rfl
theorem fill12 (n : Nat) (z a0 a1 a2 a3 a4 a5 a6 a7 a8 a9 a10 a11 : Value) : (((([a0, a1, a2, a3, a4, a5, a6, a7] ++ List.replicate (4 + n) z).set 8 a8).set 9 a9).set 10 a10).set 11 a11 = [a0, a1, a2, a3, a4, a5, a6, a7, a8, a9, a10, a11] ++ List.replicate n z := by
  rw [show 4 + n = n + 4 by omega]
  rfl

set_option maxHeartbeats 400000 in
theorem param_any (opc dpc si ni mp sls : Int) (d : Option Addr) (n c : Nat) (w : World) (ho0 : 0 ≤ opc) (ho1 : opc < 4294967296) (hd0 : 0 ≤ dpc) (hd1 : dpc < 4294967296) (hn : n ≤ 4096) (D : List Int) (hD : D.length = n)
    (hd : (d = none ∧ n = 0 ∧ c = 0) ∨ ∃ g, d = some ⟨g, 0, none⟩ ∧ RowAt w g 5 (D.map (Value.int .u8))) :
    Calls Yba.prog 4 #[.agg #[.int .u32 opc, .int .u32 dpc, .int .u8 si, .int .u8 ni, .int .u8 mp, .int .u8 sls, .slice d n c]] w fun e w' => ∃ gv, e = .returned (.agg #[.int .u16 528, .slice (some ⟨gv, 0, none⟩) (12 + n) (12 + n)]) ∧ w.heap.size ≤ gv ∧
      RowAt w' gv 5 (headCells opc dpc si ni mp sls ++ D.map (Value.int .u8)) ∧ Below w.heap.size w w' := by
  obtain ⟨i0, hi, hz0, hz1, hz2⟩ := info_parts Yba.info5
  have hne : ¬ 12 + n = 4 := by omega
  go_enter Yba.func4, Yba.ntmps4
  go_wp2_with (at_make; refine wpList_make_row _ rfl _ _ 23 rfl 5 i0 (.int .u8 0) Yba.underlying23 hi hz0 hz1 rfl _ _ _ _ 12 (12 + n) rfl rfl (by omega) (by omega) (by omega) (by rw [hz2]; omega) (by unfold maxLen; omega) ?_; intro w1 hr1 hg1; have hs1 := PS.made hr1 hg1; clear hr1 hg1; have hcp := hs1.p.cell)
  refine (put_row (w.heap.size + 2) 0 12 (12 + n) opc _ _ ho0 ho1 hs1.r (by omega) (by simp; omega)).mono ?_
  rintro e w2 ⟨rfl, hr2, hg2⟩
  have hs2 := hs1.grown hr2 hg2
  clear hcp hs1 hr2 hg2
  have hcp := hs2.p.cell
  have hP := put_row (w.heap.size + 1 + 1) 4 8 (12 + n - 4) dpc _ w2.drew hd0 hd1 hs2.drew.r (by omega) (by simp; omega)
  go_upto_region 3 with fail
  go_cut [] (fun w3 => PS w w3 [.int .u32 opc, .int .u32 dpc, .int .u8 si, .int .u8 ni, .int .u8 mp, .int .u8 sls, .slice d n c]
    ([.int .u8 (opc / 16777216), .int .u8 (opc / 65536 % 256), .int .u8 (opc / 256 % 256), .int .u8 (opc % 256), .int .u8 (dpc / 16777216), .int .u8 (dpc / 65536 % 256), .int .u8 (dpc / 256 % 256), .int .u8 (dpc % 256)] ++ List.replicate (4 + n) (.int .u8 0)))
  case first =>
    go_region_with (go_at_call 6; refine hP.mono ?_; rintro e w3 ⟨rfl, hr3, hg3⟩)
    all_goals
      go_wp2_with fail
      go_meet
      case rel =>
        have := hs2.drew.grown hr3 hg3
        rw [fill8] at this
        exact this
  case rest =>
    clear hP hs2 hcp
    have hcp := hcut.p.cell
    have c8 : wc.cell? ⟨w.heap.size + 1 + 1, 8, none⟩ = some (.int .u8 0) := by rw [hcut.r.cell, show 4 + n = n + 4 by omega]; rfl
    have c9 : wc.cell? ⟨w.heap.size + 1 + 1, 9, none⟩ = some (.int .u8 0) := by rw [hcut.r.cell, show 4 + n = n + 4 by omega]; rfl
    have c10 : wc.cell? ⟨w.heap.size + 1 + 1, 10, none⟩ = some (.int .u8 0) := by rw [hcut.r.cell, show 4 + n = n + 4 by omega]; rfl
    have c11 : wc.cell? ⟨w.heap.size + 1 + 1, 11, none⟩ = some (.int .u8 0) := by rw [hcut.r.cell, show 4 + n = n + 4 by omega]; rfl
    have f8 : wc.frozen? ⟨w.heap.size + 1 + 1, 8, none⟩ = false := hcut.r.frozen 8
    have f9 : wc.frozen? ⟨w.heap.size + 1 + 1, 9, none⟩ = false := hcut.r.frozen 9
    have f10 : wc.frozen? ⟨w.heap.size + 1 + 1, 10, none⟩ = false := hcut.r.frozen 10
    have f11 : wc.frozen? ⟨w.heap.size + 1 + 1, 11, none⟩ = false := hcut.r.frozen 11
    go_upto_region 4 with fail
    go_cut [] (fun w4 => PS w w4 [.int .u32 opc, .int .u32 dpc, .int .u8 si, .int .u8 ni, .int .u8 mp, .int .u8 sls, .slice d n c]
      (headCells opc dpc si ni mp sls ++ List.replicate n (.int .u8 0)))
    case first =>
      go_big_region
      all_goals
        go_wp2_with fail
        go_meet
        case rel =>
          have h := (((hcut.setCell 8 (.int .u8 si)).setCell 9 (.int .u8 ni)).setCell 10 (.int .u8 mp)).setCell 11 (.int .u8 sls)
          rw [fill12] at h
          exact h.drew
    case rest =>
      clear c8 c9 c10 c11 f8 f9 f10 f11 hcp
      have hs4 := hcut
      have hs5 := hcut
      clear hcut
      have hcp := hs4.p.cell
      have hn1 : d = none → n = 0 ∧ c = 0 := by
        rintro rfl
        rcases hd with h | ⟨g, h, _⟩
        · exact h.2
        · cases h
      have hn2 : ∀ ad, d = some ad → ∀ j u, (D.map (Value.int .u8))[j]? = some u → wc.cell? (ad.add j) = some u := by
        rintro ad rfl j u hu
        rcases hd with ⟨h, _⟩ | ⟨g, h, hr⟩
        · cases h
        · obtain rfl := Option.some.inj h
          rw [Addr.add_lit, Nat.zero_add, hs4.below.cell (p := ⟨g, j, none⟩) hr.lt, hr.cell]; exact hu
      have hown := hs4.r.owns 12 (12 + n) (by simp [headCells]; omega) (by omega) (by unfold maxLen; omega)
      rw [show (headCells opc dpc si ni mp sls ++ List.replicate n (Value.int .u8 0)).take 12 = headCells opc dpc si ni mp sls from List.take_left (l₁ := headCells opc dpc si ni mp sls)] at hown
      clear hd hs4
      go_wp2_with (at_builtin; refine wpList_append_fits_any _ rfl _ _ 23 rfl 0 5 i0 1 Yba.underlying23 hi hz1 (w.heap.size + 1 + 1) 12 (12 + n) _ rfl hown _ _ _ (D.map (Value.int .u8)) rfl (by simp [hD]) hn1 hn2 (ints_oneCell _ _) (by omega) ?_; intro w5 hown5 hg5; have hs6 := hs5.grown (RowAt.of_owns hown5) hg5; have cq0 := hs6.q.cell 0; have cq1 := hs6.q.cell 1; have fq := hs6.q.frozen)
      refine bodyPost_ret (v := .agg #[.int .u16 528, .slice (some ⟨w.heap.size + 1 + 1, 0, none⟩) (12 + n) (12 + n)]) ?_ rfl ⟨w.heap.size + 1 + 1, rfl, by omega, ?_, ?_⟩
      · simp [results, Yba.results4, go_sem, cq0, cq1]
      · exact hs6.r.grown (row := some (w.heap.size + 1)) (grown_setCell (grown_setCell (World.grownBy.refl _ _) _ _) _ _) (by simp)
      · exact (hs6.below.setCell (by simp) _).setCell (by simp) _

end Go.Proofs.Ybulkdago
