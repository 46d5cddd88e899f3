/-
  runList's last, end, find.
-/
import Derived.Test.YbulkdaieS5
import Derived.Laws.ResultCell
namespace Go.Proofs.Ybulkdaie.Scr
open Go.RowKit
set_option linter.unusedVariables false
set_option linter.unusedSimpArgs false

theorem cfar {w : World} {a : Addr} {u : Value} {b o : Nat} (h : b ≠ a.block) : (w.setCell a u).cell? ⟨b, o, none⟩ = w.cell? ⟨b, o, none⟩ := World.cell?_of_block (a := ⟨b, o, none⟩) (Below.heap_setCell w a u b h)

theorem cfar2d {w : World} {a a' : Addr} {u u' : Value} {b o : Nat} (h : b ≠ a.block) (h' : b ≠ a'.block) : ((w.setCell a u).setCell a' u').drew.cell? ⟨b, o, none⟩ = w.cell? ⟨b, o, none⟩ := by
  show ((w.setCell a u).setCell a' u').cell? ⟨b, o, none⟩ = _
  rw [cfar h', cfar h]
theorem cfar2d' {w : World} {a a' : Addr} {u u' : Value} {b o : Nat} (h : b ≠ a.block) (h' : b ≠ a'.block) : ((w.drew.setCell a u).setCell a' u').cell? ⟨b, o, none⟩ = w.cell? ⟨b, o, none⟩ := by
  rw [cfar h', cfar h]
  rfl

theorem last_nil (b cb : Nat) (x : Option Addr) (w : World) (hb : w.cell? ⟨b, 0, none⟩ = some (.slice x 0 cb)) :
    Calls Yba.prog 15 #[.pointer (some ⟨b, 0, none⟩)] w fun r w' => r = .returned (.pointer none) ∧ w' = w := by
  go_enter Yba.func15, Yba.ntmps15
  go_wp2_with fail
  go_ret
  exact ⟨rfl, rfl⟩

theorem last_one (b h g n m cb cap : Nat) (w : World) (hb : w.cell? ⟨b, 0, none⟩ = some (.slice (some ⟨h, 0, none⟩) 1 cb)) (hh : w.cell? ⟨h, 0, none⟩ = some (.slice (some ⟨g, 0, none⟩) n cap)) (hn : n = m + 1) (hm : m ≤ 18) :
    Calls Yba.prog 15 #[.pointer (some ⟨b, 0, none⟩)] w fun r w' => r = .returned (.pointer (some ⟨g, m * 3, none⟩)) ∧ ∃ k, w' = w.drewN k := by
  have hmi : (m : Int) < (n : Int) := by omega
  have hm0 : (0 : Int) ≤ (m : Int) := by omega
  have hwr : IntKind.i64.wrap ((n : Int) - 1) = (m : Int) := by rw [IntKind.wrap_i64]; omega
  have hwr2 : wrap64 ((n : Int) - 1) = (m : Int) := by rw [IntWalk.wrap64_in _ ⟨by omega, by omega⟩]; omega
  clear hn
  go_enter Yba.func15, Yba.ntmps15
  go_wp2_with fail
  go_quiet (fail)
  go_wp2_with fail
  go_ret
  exact ⟨rfl, _, rfl⟩

theorem end_any (b n cb : Nat) (x : Option Addr) (w : World) (hb : w.cell? ⟨b, 0, none⟩ = some (.slice x n cb)) :
    Calls Yba.prog 19 #[.pointer (some ⟨b, 0, none⟩)] w fun r w' => r = .returned (.agg #[.int .i64 (n : Int), .int .i64 0]) ∧ Below w.heap.size w w' := by
  have b2 := World.block_lt_of_cell? w _ hb
  simp at b2
  have hbx : (w.alloc (.cells #[.int .i64 0, .int .i64 0] 89)).cell? ⟨b, 0, none⟩ = some (.slice x n cb) := by
    rw [World.cell?_of_block (Below.heap_alloc w _ b b2)]; exact hb
  go_enter Yba.func19, Yba.ntmps19
  go_wp2_with fail
  refine bodyPost_ret (results_cell_row (P := Yba.prog) rfl _ _ w.heap.size 89 _ (0, 0) _ rfl (heap_alloc_new _ _) Yba.underlying89 rfl (by kernel_rfl)) rfl ?_
  exact ⟨rfl, (Below.refl _ _).alloc (Nat.le_refl _) _⟩

theorem results_cell_tmp_row {P : Program} {fn : Func} {p u : Tmp} {ty : TypeId} (h : fn.results = #[.cell p ty, .tmp u]) (tmps : Array Value) (w : World) (g : Nat) (t : TypeId) (cs : Array Value) (fr : Nat × Nat) (d : TypeDesc)
    (hp : tmps.getD p undef = .pointer (some ⟨g, 0, none⟩)) (hg : w.heap[g]? = some (.cells cs t fr))
    (hu : P.underlying ty = some d) (hd : (match d with | .struct _ | .array _ _ => true | _ => false) = true) (hi : (P.info? ty).map (·.size) = some cs.size) :
    (results fn tmps).run P w = .ok (.tuple #[.agg cs, tmps.getD u undef]) w := by
  rw [results_cell_tmp h, hp]
  simp [asAddr, run_loadVar_row w g t ty cs fr d hg hu hd hi, Result.andThen]

theorem find_nil (b cb e c : Nat) (x : Option Addr) (w : World) (hb : w.cell? ⟨b, 0, none⟩ = some (.slice x 0 cb)) :
    Calls Yba.prog 20 #[.pointer (some ⟨b, 0, none⟩), pos e c] w fun r w' => r = .returned (.tuple #[.agg #[.int .i64 0, .int .i64 0], .pointer none]) ∧ Below w.heap.size w w' := by
  have b2 := World.block_lt_of_cell? w _ hb
  simp at b2
  unfold pos
  go_enter Yba.func20, Yba.ntmps20
  go_wp2_with fail
  go_region_held3 (fun w' => Below w.heap.size w w' ∧ w.heap.size + 1 < w'.heap.size ∧ w'.cell? ⟨w.heap.size, 0, none⟩ = some (.int .u64 (e : Int)) ∧ w'.cell? ⟨w.heap.size, 1, none⟩ = some (.int .u64 (c : Int)) ∧ w'.cell? ⟨b, 0, none⟩ = some (.slice x 0 cb) ∧ w'.heap[w.heap.size + 1]? = some (.cells #[.int .i64 0, .int .i64 0] 89 (0, 0)))
    (first | (refine ⟨(((Below.refl _ _).alloc (Nat.le_refl _) _).alloc (by simp) _).drew, by simp, by simp, by simp, bsome (((Below.refl _ _).alloc (Nat.le_refl _) _).alloc (by simp) _).drew (Nat.le_refl _) hb, heap_alloc2_new _ _ _⟩) | (go_split_ands; refine ⟨kstep ‹_› hb2 (by omega), by have := hb2.size; omega, bsome hb2 (Nat.le_refl _) ?_, bsome hb2 (Nat.le_refl _) ?_, bsome hb2 (Nat.le_refl _) ?_, by rw [hb2.block _ (by omega)]; assumption⟩ <;> assumption))
    (first
    | (go_at_call 27; refine (bsfB_nil x cb e c _).mono ?_; rintro r w2 ⟨⟨v, rfl⟩, hb2⟩))
  all_goals
    rename_i hHeld
    obtain ⟨hbl, hsz, hc0, hc1, hc2, hc3⟩ := hHeld
    have hr : RowAt w2 (w.heap.size + 1) 89 [.int .i64 0, .int .i64 0] := hc3
    have hcc := hr.cell
    have hff := hr.frozen
    clear hc3
    go_wp2_with fail
    have hr2 := (hr.setCell 0 (.int .i64 0)).setCell 1 (.int .i64 0)
    refine bodyPost_ret (results_cell_tmp_row (P := Yba.prog) rfl _ _ (w.heap.size + 1) 89 _ (0, 0) _ rfl hr2 Yba.underlying89 rfl (by kernel_rfl)) rfl ?_
    exact ⟨rfl, (hbl.setCell (by simp) _).setCell (by simp) _⟩

theorem find_one (b h g n m cb cap : Nat) (L : List Sp) (e c : Nat) (w : World) (hb : w.cell? ⟨b, 0, none⟩ = some (.slice (some ⟨h, 0, none⟩) 1 cb)) (hh : w.cell? ⟨h, 0, none⟩ = some (.slice (some ⟨g, 0, none⟩) n cap)) (hsp : SpAt w g L) (hL : Good L) (hn : L.length = n) (hnm : n = m + 1) (hnc : n ≤ cap) :
    Calls Yba.prog 20 #[.pointer (some ⟨b, 0, none⟩), pos e c] w fun r w' => (∃ i, Cut L e c i ∧ ((i < n ∧ r = .returned (.tuple #[.agg #[.int .i64 0, .int .i64 (i : Int)], .pointer (some ⟨g, i * 3, none⟩)])) ∨ (i = n ∧ r = .returned (.tuple #[.agg #[.int .i64 1, .int .i64 0], .pointer none])))) ∧ Below w.heap.size w w' := by
  have hlen := hL.len
  obtain ⟨s, hs⟩ : ∃ s, L[m]? = some s := ⟨_, List.getElem?_eq_getElem (by omega)⟩
  have hm : m ≤ 18 := by omega
  have HSP := hide hsp
  have HS := hide hs
  have HN := hide hn
  have HNM := hide hnm
  have HL := hide hL
  have b2 := World.block_lt_of_cell? w _ hb
  simp at b2
  unfold pos
  clear hsp hs hn hnm hL hlen
  by_cases hu : s.under e c
  · go_enter Yba.func20, Yba.ntmps20
    go_wp2_with fail
    go_region_held3 (fun w' => Below w.heap.size w w' ∧ w.heap.size + 1 < w'.heap.size ∧ w'.cell? ⟨w.heap.size, 0, none⟩ = some (.int .u64 (e : Int)) ∧ w'.cell? ⟨w.heap.size, 1, none⟩ = some (.int .u64 (c : Int)) ∧ w'.cell? ⟨b, 0, none⟩ = some (.slice (some ⟨h, 0, none⟩) 1 cb) ∧ w'.heap[w.heap.size + 1]? = some (.cells #[.int .i64 0, .int .i64 0] 89 (0, 0)))
      (first | (refine ⟨(((Below.refl _ _).alloc (Nat.le_refl _) _).alloc (by simp) _).drew, by simp, by simp, by simp, bsome (((Below.refl _ _).alloc (Nat.le_refl _) _).alloc (by simp) _).drew (Nat.le_refl _) hb, heap_alloc2_new _ _ _⟩) | (go_split_ands; refine ⟨kstep ‹_› hb2 (by omega), by have := hb2.size; omega, bsome hb2 (Nat.le_refl _) ?_, bsome hb2 (Nat.le_refl _) ?_, bsome hb2 (Nat.le_refl _) ?_, by rw [hb2.block _ (by omega)]; assumption⟩ <;> assumption))
      (first
      | (go_at_call 27; refine (bsfB_one h g n m cap cb L s e c _ (bsome (((Below.refl _ _).alloc (Nat.le_refl _) _).alloc (by simp) _).drew (Nat.le_refl _) hh) (HSP.out.bel (((Below.refl _ _).alloc (Nat.le_refl _) _).alloc (by simp) _).drew (Nat.le_refl _)) HS.out HNM.out hm 1 ⟨fun _ => rfl, fun hx => absurd hu hx⟩).mono ?_; rintro r w2 ⟨⟨v, rfl⟩, hb2⟩))
    all_goals
      rename_i hHeld
      clear hb
      obtain ⟨hbl, hsz, hc0, hc1, hc2, hc3⟩ := hHeld
      have hr : RowAt w2 (w.heap.size + 1) 89 [.int .i64 0, .int .i64 0] := hc3
      have hcc := hr.cell
      have hff := hr.frozen
      clear hc3
      go_wp2_with fail
      have hr2 := (hr.setCell 0 (.int .i64 1)).setCell 1 (.int .i64 0)
      refine bodyPost_ret (results_cell_tmp_row (P := Yba.prog) rfl _ _ (w.heap.size + 1) 89 _ (0, 0) _ rfl hr2 Yba.underlying89 rfl (by kernel_rfl)) rfl ?_
      refine ⟨⟨n, ⟨by rw [HN.out]; exact Nat.le_refl _, fun k t hk ht => ?_, fun k t hk ht => ?_⟩, .inr ⟨rfl, rfl⟩⟩, (hbl.setCell (by simp) _).setCell (by simp) _⟩
      · have := HNM.out
        exact under_mono HL.out e c (by omega) ht HS.out hu
      · have := HN.out
        rw [List.getElem?_eq_none (by omega)] at ht
        cases ht
  · have b3 := World.block_lt_of_cell? w _ hh
    simp at b3
    go_enter Yba.func20, Yba.ntmps20
    go_wp2_with fail
    go_region_held3 (fun w' => Below w.heap.size w w' ∧ w.heap.size + 1 < w'.heap.size ∧ w'.cell? ⟨w.heap.size, 0, none⟩ = some (.int .u64 (e : Int)) ∧ w'.cell? ⟨w.heap.size, 1, none⟩ = some (.int .u64 (c : Int)) ∧ w'.cell? ⟨b, 0, none⟩ = some (.slice (some ⟨h, 0, none⟩) 1 cb) ∧ w'.cell? ⟨h, 0, none⟩ = some (.slice (some ⟨g, 0, none⟩) n cap) ∧ w'.heap[w.heap.size + 1]? = some (.cells #[.int .i64 0, .int .i64 0] 89 (0, 0)))
      (first | (refine ⟨(((Below.refl _ _).alloc (Nat.le_refl _) _).alloc (by simp) _).drew, by simp, by simp, by simp, bsome (((Below.refl _ _).alloc (Nat.le_refl _) _).alloc (by simp) _).drew (Nat.le_refl _) hb, bsome (((Below.refl _ _).alloc (Nat.le_refl _) _).alloc (by simp) _).drew (Nat.le_refl _) hh, heap_alloc2_new _ _ _⟩) | (go_split_ands; refine ⟨kstep ‹_› hb2 (by omega), by have := hb2.size; omega, bsome hb2 (Nat.le_refl _) ?_, bsome hb2 (Nat.le_refl _) ?_, bsome hb2 (Nat.le_refl _) ?_, bsome hb2 (Nat.le_refl _) ?_, by rw [hb2.block _ (by omega)]; assumption⟩ <;> assumption))
      (first
      | (go_at_call 27; refine (bsfB_one h g n m cap cb L s e c _ (bsome (((Below.refl _ _).alloc (Nat.le_refl _) _).alloc (by simp) _).drew (Nat.le_refl _) hh) (HSP.out.bel (((Below.refl _ _).alloc (Nat.le_refl _) _).alloc (by simp) _).drew (Nat.le_refl _)) HS.out HNM.out hm 0 ⟨fun hx => absurd hx hu, fun _ => rfl⟩).mono ?_; rintro r w2 ⟨⟨v, rfl⟩, hb2⟩))
    rename_i hHeld
    clear hb hh
    obtain ⟨hbl, hsz, hc0, hc1, hc2, hc4, hc3⟩ := hHeld
    have HC3 := hide hc3
    clear hc3
    go_wp2_with fail
    go_region_held3 (fun w' => Below w.heap.size w w' ∧ w.heap.size + 1 < w'.heap.size ∧ w'.cell? ⟨w.heap.size, 0, none⟩ = some (.int .u64 (e : Int)) ∧ w'.cell? ⟨w.heap.size, 1, none⟩ = some (.int .u64 (c : Int)) ∧ w'.cell? ⟨b, 0, none⟩ = some (.slice (some ⟨h, 0, none⟩) 1 cb) ∧ w'.cell? ⟨h, 0, none⟩ = some (.slice (some ⟨g, 0, none⟩) n cap) ∧ w'.heap[w.heap.size + 1]? = some (.cells #[.int .i64 0, .int .i64 0] 89 (0, 0)))
      (first | (exact ⟨hbl.drew, hsz, hc0, hc1, hc2, hc4, HC3.out⟩) | (go_split_ands; refine ⟨kstep ‹_› hb3 (by omega), by have := hb3.size; omega, bsome hb3 (Nat.le_refl _) ?_, bsome hb3 (Nat.le_refl _) ?_, bsome hb3 (Nat.le_refl _) ?_, bsome hb3 (Nat.le_refl _) ?_, by rw [hb3.block _ (by omega)]; assumption⟩ <;> assumption))
      (first
      | (go_at_call 29; refine (bsf_any g n cap L e c _ HL.out HN.out hnc (HSP.out.bel hbl.drew (Nat.le_refl _))).mono ?_; rintro r w3 ⟨i, v', hcut, rfl, hb3⟩))
    rename_i hHeld
    clear hbl hsz hc0 hc1 hc2 hc4 HC3 hb2
    obtain ⟨hbl, hsz, hc0, hc1, hc2, hc4, hc3⟩ := hHeld
    have hin : i < n := by
      have h1 := HN.out
      have h2 := HNM.out
      rcases Nat.lt_or_ge i n with h3 | h3
      · exact h3
      · exact absurd (hcut.un m s (by omega) HS.out) hu
    have hini : (i : Int) < (n : Int) := by omega
    have hi0 : (0 : Int) ≤ (i : Int) := by omega
    have hr : RowAt w3 (w.heap.size + 1) 89 [.int .i64 0, .int .i64 0] := hc3
    have hcc := hr.cell
    have hff := hr.frozen
    have HCUT := hide hcut
    have hbn : ¬ b = w.heap.size + 1 := by omega
    have hhn : ¬ h = w.heap.size + 1 := by omega
    clear hc3 hcut hb3
    go_wp2_with fail
    have X : (fun w' : World => w'.cell? ⟨b, 0, none⟩ = some (.slice (some ⟨h, 0, none⟩) 1 cb) ∧ w'.cell? ⟨h, 0, none⟩ = some (.slice (some ⟨g, 0, none⟩) n cap)) ((w3.setCell ⟨w.heap.size + 1, 0, none⟩ (.int .i64 0)).setCell ⟨w.heap.size + 1, 1, none⟩ (.int .i64 (i : Int))).drew := by
      exact ⟨(cfar2d (by simp; omega) (by simp; omega)).trans hc2, (cfar2d (by simp; omega) (by simp; omega)).trans hc4⟩
    go_region_held3 (fun w' => w'.cell? ⟨b, 0, none⟩ = some (.slice (some ⟨h, 0, none⟩) 1 cb) ∧ w'.cell? ⟨h, 0, none⟩ = some (.slice (some ⟨g, 0, none⟩) n cap)) (first | go_keep | (exact ⟨(cfar2d (by simp; omega) (by simp; omega)).trans hc2, (cfar2d (by simp; omega) (by simp; omega)).trans hc4⟩) | (exact ⟨(cfar2d' (by simp; omega) (by simp; omega)).trans hc2, (cfar2d' (by simp; omega) (by simp; omega)).trans hc4⟩)) (fail)
    clear X
    have hr2 : RowAt ((w3.setCell ⟨w.heap.size + 1, 0, none⟩ (.int .i64 0)).setCell ⟨w.heap.size + 1, 1, none⟩ (.int .i64 (i : Int))).drew (w.heap.size + 1) 89 [.int .i64 0, .int .i64 (i : Int)] := (hr.setCell 0 (.int .i64 0)).setCell 1 (.int .i64 (i : Int))
    have HR2 := hide hr2
    have HBL := hide ((hbl.setCell (p := ⟨w.heap.size + 1, 0, none⟩) (by simp) (.int .i64 0)).setCell (p := ⟨w.heap.size + 1, 1, none⟩) (by simp) (.int .i64 (i : Int))).drew
    clear hr2
    go_wp2_with fail
    refine bodyPost_ret (results_cell_tmp_row (P := Yba.prog) rfl _ _ (w.heap.size + 1) 89 _ (0, 0) _ rfl HR2.out Yba.underlying89 rfl (by kernel_rfl)) rfl ?_
    exact ⟨⟨i, HCUT.out, .inl ⟨hin, rfl⟩⟩, HBL.out⟩

end Go.Proofs.Ybulkdaie.Scr
