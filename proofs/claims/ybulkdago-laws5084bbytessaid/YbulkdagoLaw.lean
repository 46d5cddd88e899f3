import Derived.Test.YbulkdagoParam
import Derived.Deep.DeepCutAuto
namespace Go.Proofs.Ybulkdago
open Go.RowKit

/-- The copy of the data that the law makes for itself. -/
def Copy (w w1 : World) (n : Nat) (D : List Int) (v : Value) : Prop :=
  Below w.heap.size w w1 ∧ ((v = .slice none 0 0 ∧ n = 0) ∨ ∃ g, v = .slice (some ⟨g, 0, none⟩) n n ∧ w.heap.size ≤ g ∧ RowAt w1 g 5 (D.map (Value.int .u8)))

/-- Where the law stands behind its calls: its own ProtocolData, Param's row, the head, the copy. -/
structure LS (w wr : World) (pB gv hB : Nat) (P : List Value) (V Hd : List Int) (dd : Option Addr) (n : Nat) (D : List Int) : Prop where
  p : RowAt wr pB 25 P
  v : RowAt wr gv 5 (V.map (Value.int .u8))
  h : RowAt wr hB 31 (Hd.map (Value.int .u8))
  d : (dd = none ∧ n = 0) ∨ ∃ g, dd = some ⟨g, 0, none⟩ ∧ g < pB ∧ RowAt wr g 5 (D.map (Value.int .u8))
  below : Below w.heap.size w wr
  gw : w.heap.size ≤ gv
  pg : pB < gv
  gh : gv < hB

theorem LS.drew {w wr : World} {pB gv hB : Nat} {P : List Value} {V Hd : List Int} {dd : Option Addr} {n : Nat} {D : List Int} (h : LS w wr pB gv hB P V Hd dd n D) : LS w wr.drew pB gv hB P V Hd dd n D :=
  ⟨h.p, h.v, h.h, h.d, h.below.drew, h.gw, h.pg, h.gh⟩
theorem LS.drewN {w wr : World} {pB gv hB : Nat} {P : List Value} {V Hd : List Int} {dd : Option Addr} {n : Nat} {D : List Int} (h : LS w wr pB gv hB P V Hd dd n D) (k : Nat) : LS w (wr.drewN k) pB gv hB P V Hd dd n D :=
  ⟨h.p, h.v, h.h, h.d, below_drewN h.below k, h.gw, h.pg, h.gh⟩
theorem LS.set {w wr : World} {pB gv hB : Nat} {P : List Value} {V Hd : List Int} {dd : Option Addr} {n : Nat} {D : List Int} (h : LS w wr pB gv hB P V Hd dd n D) (j : Nat) (x : Int) : LS w (wr.setCell ⟨gv, j, none⟩ (.int .u8 x)) pB gv hB P (V.set j x) Hd dd n D :=
  have hg := grown_setCell (World.grownBy.refl wr (some gv)) j (.int .u8 x)
  have pg := h.pg
  have gh := h.gh
  ⟨h.p.grown hg (by simp; omega), by rw [List.map_set]; exact h.v.setCell j _, h.h.grown hg (by simp; omega),
    h.d.elim .inl (fun ⟨g, e, l, r⟩ => .inr ⟨g, e, l, r.grown hg (by simp; omega)⟩), h.below.setCell h.gw _, h.gw, pg, gh⟩

theorem row_cell {w : World} {g : Nat} {t : TypeId} {V : List Int} (h : RowAt w g t (V.map (Value.int .u8))) (k : Nat) (hk : k < V.length) : w.cell? ⟨g, k, none⟩ = some (.int .u8 (V.getD k 0)) := by
  rw [h.cell, List.getElem?_map, List.getElem?_eq_getElem hk]
  simp [List.getD, hk]

def headInts (opc dpc si ni mp sls : Int) : List Int :=
  [opc / 16777216, opc / 65536 % 256, opc / 256 % 256, opc % 256, dpc / 16777216, dpc / 65536 % 256, dpc / 256 % 256, dpc % 256, si, ni, mp, sls]

set_option maxHeartbeats 400000 in
theorem walk_big (a0 a1 a2 a3 a4 a5 : Int) (a6 : Option Addr) (len6 cap6 : Nat) (w : World) (h : 4096 < len6) (hm : len6 ≤ maxLen) :
    Calls Yba.prog 3 #[.int .u32 a0, .int .u32 a1, .int .u8 a2, .int .u8 a3, .int .u8 a4, .int .u8 a5, .slice a6 len6 cap6] w fun e w' => e = .returned (.bool true) ∧ Below w.heap.size w w' := by
  unfold maxLen at hm
  go_enter Yba.func3, Yba.ntmps3
  go_wp2
  go_ret
  exact ⟨rfl, Below.refl _ _⟩

set_option maxHeartbeats 400000 in
set_option maxRecDepth 100000 in
theorem walk_small (a0 a1 a2 a3 a4 a5 : Int) (a6 : Option Addr) (len6 cap6 : Nat) (D : List Int) (w : World) (h : len6 ≤ 4096) (hD : D.length = len6)
    (ho0 : 0 ≤ a0) (ho1 : a0 < 4294967296) (hd0 : 0 ≤ a1) (hd1 : a1 < 4294967296)
    (hA : 0 < len6 → ∃ b off, a6 = some ⟨b, off, none⟩ ∧ ∀ i, i < len6 → w.cell? ⟨b, off + i, none⟩ = some (.int .u8 (D.getD i 0)))
    (hnone : a6 = none → len6 = 0) (hc : ∀ x, a6 = some x → ∀ i u, (D.map (Value.int .u8))[i]? = some u → w.cell? (x.add i) = some u) :
    Calls Yba.prog 3 #[.int .u32 a0, .int .u32 a1, .int .u8 a2, .int .u8 a3, .int .u8 a4, .int .u8 a5, .slice a6 len6 cap6] w fun e w' => e = .returned (.bool true) ∧ Below w.heap.size w w' := by
  obtain ⟨i0, hi, hz0, hz1, hz2⟩ := info_parts Yba.info5
  have hneq := fun (wx : World) => run_neq_slice_nil_any (P := Yba.prog) wx 23 5 a6 len6 cap6 0 0 Yba.underlying23
  have HN : Hid (a6 = none → len6 = 0) := hnone
  have HC : Hid (∀ x, a6 = some x → ∀ i u, (D.map (Value.int .u8))[i]? = some u → w.cell? (x.add i) = some u) := hc
  have HD : Hid (D.length = len6) := hD
  have HA : Hid (0 < len6 → ∃ b off, a6 = some ⟨b, off, none⟩ ∧ ∀ i, i < len6 → w.cell? ⟨b, off + i, none⟩ = some (.int .u8 (D.getD i 0))) := hA
  clear hnone hc hD hA
  go_enter Yba.func3, Yba.ntmps3
  go_upto_if 28 with fail
  go_cut [15] (fun v w1 => Copy w w1 len6 D v)
  case first =>
    cases a6 with
    | none =>
      go_wp2_with fail
      go_meet
      case rel => exact ⟨Below.refl _ _, .inl ⟨rfl, by simpa using HN.out⟩⟩
    | some x =>
      go_wp2_with (at_make; refine wpList_make_row _ rfl _ _ 23 rfl 5 i0 (.int .u8 0) Yba.underlying23 hi hz0 hz1 rfl _ _ _ _ len6 len6 rfl rfl (by omega) (by omega) (by omega) (by rw [hz2]; omega) (by unfold maxLen; omega) ?_; intro w1 hr1 hg1; obtain ⟨w2, hrun, hr2, hg2⟩ := copy_row (P := Yba.prog) w1 23 5 Yba.underlying23 Yba.size5 w.heap.size len6 cap6 x (D.map (Value.int .u8)) _ hr1 (by simp) (by simpa using HD.out) (fun i u hu => hg1.cell (HC.out x rfl i u hu) (by simp)) (ints_oneCell _ _); have hb2 : Below w.heap.size w w2 := ((Below.refl _ _).grown hg1 (Nat.le_refl _) (by intro k hk; cases hk)).grown hg2 (by have := hg1.size; omega) (by intro k hk; cases hk; exact Nat.le_refl _))
      go_meet
      case rel => exact ⟨hb2, .inr ⟨_, rfl, Nat.le_refl _, hr2⟩⟩
  case rest =>
    obtain ⟨hb, hv⟩ := hcut
    clear hneq
    have hex : ∃ dd dc, u15 = .slice dd len6 dc ∧ ((dd = none ∧ len6 = 0 ∧ dc = 0) ∨ ∃ g, dd = some ⟨g, 0, none⟩ ∧ RowAt wc g 5 (D.map (Value.int .u8))) := by
      rcases hv with ⟨h1, h2⟩ | ⟨g, h1, _, h2⟩
      · exact ⟨none, 0, by rw [h1, h2], .inl ⟨rfl, h2, rfl⟩⟩
      · exact ⟨some ⟨g, 0, none⟩, len6, h1, .inr ⟨g, rfl, h2⟩⟩
    obtain ⟨dd, dc, hu15, hdd⟩ := hex
    rw [hu15]
    have HV : Hid (Copy w wc len6 D (.slice dd len6 dc)) := by rw [← hu15]; exact ⟨hb, hv⟩
    clear hv hu15 u15
    have hpar := param_any a0 a1 a2 a3 a4 a5 dd len6 dc (wc.alloc (.cells #[.int .u32 a0, .int .u32 a1, .int .u8 a2, .int .u8 a3, .int .u8 a4, .int .u8 a5, .slice dd len6 dc] 25)) ho0 ho1 hd0 hd1 h D HD.out (hdd.elim .inl (fun ⟨g, e, r⟩ => .inr ⟨g, e, r.alloc _⟩))
    go_wp2_with fail
    refine hpar.mono ?_
    rintro e w2 ⟨gv, rfl, hgv, hrv, hb2⟩
    clear hpar
    have hb2c := fun o => hb2.cell (p := ⟨wc.heap.size, o, none⟩) (by simp)
    have hs2 := hb2.size
    simp at hgv hb2c hs2
    go_wp2_with fail
    refine (head_any a0 a1 a2 a3 a4 a5 _ ho0 ho1 hd0 hd1).mono ?_
    rintro e w3 ⟨rfl, hb3⟩
    have hs3 := hb3.size
    simp at hs3
    have hls : LS w (w3.alloc (.cells (headCells a0 a1 a2 a3 a4 a5).toArray 31)) wc.heap.size gv w3.heap.size [.int .u32 a0, .int .u32 a1, .int .u8 a2, .int .u8 a3, .int .u8 a4, .int .u8 a5, .slice dd len6 dc] (headInts a0 a1 a2 a3 a4 a5 ++ D) (headInts a0 a1 a2 a3 a4 a5) dd len6 D := by
      have hp2 : RowAt w2 wc.heap.size 25 [.int .u32 a0, .int .u32 a1, .int .u8 a2, .int .u8 a3, .int .u8 a4, .int .u8 a5, .slice dd len6 dc] := by
        have := RowAt.new wc [.int .u32 a0, .int .u32 a1, .int .u8 a2, .int .u8 a3, .int .u8 a4, .int .u8 a5, .slice dd len6 dc] 25
        unfold RowAt at this ⊢
        rw [hb2.block _ (by simp)]; exact this
      have step : ∀ {g t L}, RowAt w2 g t L → RowAt (w3.alloc (.cells (headCells a0 a1 a2 a3 a4 a5).toArray 31)) g t L := by
        intro g t L hr
        refine RowAt.alloc ?_ _
        have hl := hr.lt
        unfold RowAt at hr ⊢
        rw [hb3.block _ (by simp; omega), Below.heap_alloc _ _ _ hl]; exact hr
      have hgl := hrv.lt
      refine ⟨step hp2, step (by rw [List.map_append]; exact hrv), RowAt.new _ _ _, ?_, ?_, ?_, ?_, ?_⟩
      · rcases hdd with ⟨h1, h2, _⟩ | ⟨g, h1, h2⟩
        · exact .inl ⟨h1, h2⟩
        · refine .inr ⟨g, h1, h2.lt, step ?_⟩
          have := h2.alloc (.cells #[.int .u32 a0, .int .u32 a1, .int .u8 a2, .int .u8 a3, .int .u8 a4, .int .u8 a5, .slice dd len6 dc] 25)
          have hl := this.lt
          unfold RowAt at this ⊢
          rw [hb2.block _ hl]; exact this
      · have hbs := hb.size
        exact ((((hb.alloc hbs _).trans (hb2.mono (by simp; omega))).alloc (by omega) _).trans (hb3.mono (by simp; omega))).alloc (by omega) _
      · have hbs := hb.size; omega
      · omega
      · omega
    clear hb2c hs2 hb2 hrv hb hdd hgv hs3 hb3
    unfold headCells at hls ⊢
    go_wp2_with fail
    have hHl : (headInts a0 a1 a2 a3 a4 a5).length = 12 := rfl
    generalize headInts a0 a1 a2 a3 a4 a5 = HI at hls hHl
    have hlen := HD.out
    go_loopw [20] (fun i wr => ∃ k : Nat, k ≤ 12 ∧ i = .int .i64 k ∧ LS w wr wc.heap.size gv w3.heap.size [.int .u32 a0, .int .u32 a1, .int .u8 a2, .int .u8 a3, .int .u8 a4, .int .u8 a5, .slice dd len6 dc] (HI ++ D) HI dd len6 D) (fun i _ => 12 - (intOf i).toNat)
    case atStart => exact ⟨0, by omega, rfl, hls⟩
    case round =>
      clear hls
      obtain ⟨k, hk, rfl, hls⟩ := hrel
      by_cases hlt : k < 12
      · have cv : wr.cell? ⟨gv, k, none⟩ = some (.int .u8 (HI.getD k 0)) := by
          have := row_cell hls.v k (by simp [hHl, hlen]; omega)
          rw [this]; simp [List.getD, List.getElem?_append_left (show k < HI.length by omega)]
        have ch : wr.cell? ⟨w3.heap.size, k, none⟩ = some (.int .u8 (HI.getD k 0)) := row_cell hls.h k (by omega)
        have hk1 : (k : Int) < ((12 + len6 : Nat) : Int) := by omega
        have hk2 : (k : Int) < 12 := by omega
        go_wp2_with fail
        go_quiet (fail)
        go_wp2_with fail
        go_roundw
        case rel => exact ⟨k + 1, by omega, by go_num, hls.drewN _⟩
        case measure => simp [intOf]; omega
      · obtain rfl : k = 12 := by omega
        clear hk hlt
        go_wp2_with fail
        go_loopw [21] (fun i wr => ∃ k : Nat, k ≤ len6 ∧ i = .int .i64 k ∧ LS w wr wc.heap.size gv w3.heap.size [.int .u32 a0, .int .u32 a1, .int .u8 a2, .int .u8 a3, .int .u8 a4, .int .u8 a5, .slice dd len6 dc] (HI ++ D) HI dd len6 D) (fun i _ => len6 - (intOf i).toNat)
        case atStart => exact ⟨0, by omega, rfl, hls⟩
        case round =>
          clear hls
          obtain ⟨k, hk, rfl, hls⟩ := hrel
          by_cases hlt : k < len6
          · obtain ⟨b, off, rfl, hdc⟩ := HA.out (by omega)
            have cv : wr.cell? ⟨gv, 12 + k, none⟩ = some (.int .u8 (D.getD k 0)) := by
              have := row_cell hls.v (12 + k) (by simp [hHl, hlen]; omega)
              rw [this]; simp [List.getD, List.getElem?_append_right (show HI.length ≤ 12 + k by omega), hHl]
            have cd : wr.cell? ⟨b, off + k, none⟩ = some (.int .u8 (D.getD k 0)) := by
              have := hdc k hlt
              rw [hls.below.cell (p := ⟨b, off + k, none⟩) (World.block_lt_of_cell? _ _ this)]; exact this
            clear hdc
            have hk1 : 12 + (k : Int) < ((12 + len6 : Nat) : Int) := by omega
            have hk2 : (k : Int) < (len6 : Int) := by omega
            go_wp2_with fail
            go_quiet (fail)
            go_wp2_with fail
            go_roundw
            case rel => exact ⟨k + 1, by omega, by go_num, hls.drewN _⟩
            case measure => simp [intOf]; omega
          · obtain rfl : k = len6 := by omega
            clear hk hlt
            go_wp2_with fail
            go_loopw [22] (fun i wr => ∃ (j : Nat) (V : List Int), j ≤ 12 + k ∧ i = .int .i64 j ∧ V.length = 12 + k ∧ LS w wr wc.heap.size gv w3.heap.size [.int .u32 a0, .int .u32 a1, .int .u8 a2, .int .u8 a3, .int .u8 a4, .int .u8 a5, .slice dd k dc] V HI dd k D) (fun i _ => 12 + k - (intOf i).toNat)
            case atStart => exact ⟨0, HI ++ D, by omega, rfl, by simp [hHl, hlen], hls⟩
            case round =>
              clear hls
              obtain ⟨j, V, hj, rfl, hV, hls⟩ := hrel
              by_cases hlt : j < 12 + k
              · have cv : wr.cell? ⟨gv, j, none⟩ = some (.int .u8 (V.getD j 0)) := row_cell hls.v j (by omega)
                have fv : wr.frozen? ⟨gv, j, none⟩ = false := hls.v.frozen j
                have HV2 : Hid (V.length = 12 + k) := hV
                clear hV
                go_wp2_with fail
                go_roundw
                case rel => exact ⟨j + 1, _, by omega, by go_num, by rw [List.length_set]; exact HV2.out, hls.set j _⟩
                case measure => simp [intOf]; omega
              · obtain rfl : j = 12 + k := by omega
                clear hj hlt hV
                have cp : wr.cell? ⟨wc.heap.size, 6, none⟩ = some (.slice dd k dc) := hls.p.cell 6
                go_wp2_with fail
                clear cp
                go_loopw [23] (fun i wr => ∃ (j : Nat), j ≤ k ∧ i = .int .i64 j ∧ LS w wr wc.heap.size gv w3.heap.size [.int .u32 a0, .int .u32 a1, .int .u8 a2, .int .u8 a3, .int .u8 a4, .int .u8 a5, .slice dd k dc] V HI dd k D) (fun i _ => k - (intOf i).toNat)
                case atStart => exact ⟨0, by omega, rfl, hls⟩
                case round =>
                  clear hls
                  obtain ⟨j, hj, rfl, hls⟩ := hrel
                  by_cases hlt : j < k
                  · obtain ⟨b, off, rfl, hdc⟩ := HA.out (by omega)
                    have cd : wr.cell? ⟨b, off + j, none⟩ = some (.int .u8 (D.getD j 0)) := by
                      have := hdc j hlt
                      rw [hls.below.cell (p := ⟨b, off + j, none⟩) (World.block_lt_of_cell? _ _ this)]; exact this
                    clear hdc
                    obtain ⟨g, hdg, cg⟩ : ∃ g, dd = some ⟨g, 0, none⟩ ∧ wr.cell? ⟨g, j, none⟩ = some (.int .u8 (D.getD j 0)) := by
                      rcases hls.d with ⟨_, h0⟩ | ⟨g, e, _, hr⟩
                      · omega
                      · exact ⟨g, e, row_cell hr j (by omega)⟩
                    have cp : wr.cell? ⟨wc.heap.size, 6, none⟩ = some (.slice (some ⟨g, 0, none⟩) k dc) := by rw [← hdg]; exact hls.p.cell 6
                    have HG : Hid (dd = some ⟨g, 0, none⟩) := hdg
                    clear hdg
                    have hk2 : (j : Int) < (k : Int) := by omega
                    go_wp2_with fail
                    go_quiet (fail)
                    go_wp2_with fail
                    go_roundw
                    case rel => exact ⟨j + 1, by omega, by go_num, hls.drewN _⟩
                    case measure => simp [intOf]; omega
                  · have hk2 : ¬ (j : Int) < (k : Int) := by omega
                    go_wp2_with fail
                    go_ret
                    exact ⟨rfl, hls.below⟩

end Go.Proofs.Ybulkdago
