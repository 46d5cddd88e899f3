/-
  The walk of extend, where the words are made.
-/
import Derived.Test.YbulkdaieFil
namespace Go.Proofs.Ybulkdaie
open Go.RowKit
set_option linter.unusedVariables false

set_option maxHeartbeats 1000000 in
set_option maxRecDepth 100000 in
theorem ext_make_t_f (B G lo hi d : Nat) (ep f l m : Int) (bs : List Bool) (w : World) (hr : RowAt w B 70 (runCells ep lo hi f l (.slice none 0 0))) (hBG : B < G) (hG : G < w.heap.size)
    (hbs : hi + 1 = lo + bs.length) (hb0 : 0 < bs.length) (hb2 : bs.length ≤ 3000) (hd : 1 ≤ d) (hd4 : d ≤ 4) (hhi : (hi : Int) + 4 < 18446744073709551615) (sg one : Bool) (h1 : (m == wrap64 (l + 1)) = true)
    (h2 : ((lo : Int) == (hi : Int)) = sg) (h3 : (f != l) = false) (h4 : ((hi : Int) + (d : Int) == (hi : Int) + 1) = one) (hno : (true && one && (sg || false) || !true && (sg || !false)) = false)
    (hrg1 : bs.take 1 = [false]) (hrg : ∀ b ∈ bs, b = false) :
    Calls Yba.prog 11 #[.pointer (some ⟨B, 0, none⟩), .int .u64 ((hi : Int) + (d : Int)), .int .i64 m] w fun e w' => e = .returned (.bool true) ∧ ∃ v', RowAt w' B 70 (runCells ep lo (hi + d) f m v') ∧ Words w' G v' (bs ++ true :: List.replicate (d - 1) false) ∧ Frm B G w w' := by
  obtain ⟨i0, hi0, hz0, hz1, hz2⟩ := info_parts Yba.info30
  have HBS := hide hbs
  have hlh0 : (lo : Int) ≤ (hi : Int) := by omega
  have hlh : (lo : Int) ≤ (hi : Int) + 1 := by omega
  have hlh2 : (hi : Int) + 1 ≤ (lo : Int) + 3000 := by omega
  have HR := hide hr
  have hc := hr.cell
  have hf := hr.frozen
  unfold runCells at hc
  have heq := fun (wx : World) => Lib.run_eql_slice_nil (P := Yba.prog) wx 68 30 none 0 0 0 0 Yba.underlying68
  obtain ⟨n0, hn0⟩ : ∃ n0, n0 = (hi - lo) / 64 + 1 := ⟨_, rfl⟩
  have hn0b : n0 ≤ 4096 := by omega
  have hmk := make_zrow n0 hn0b (((hi : Int) - (lo : Int)) / 64 + 1) (by omega)
  have hc5 : ∀ k, ((w.drewN k).alloc (.cells (zrow n0) 30)).cell? ⟨B, 5, none⟩ = some (.slice none 0 0) := fun k => ((show RowAt (w.drewN k) B 70 _ from hr).alloc _).cell 5
  have hf5 : ∀ k, ((w.drewN k).alloc (.cells (zrow n0) 30)).frozen? ⟨B, 5, none⟩ = false := fun k => ((show RowAt (w.drewN k) B 70 _ from hr).alloc _).frozen 5
  have HN0 := hide hn0
  have HR1 := hide hrg1
  have HRG := hide hrg
  have HNO := hide hno
  clear hbs hn0 hrg1 hrg hno hr
  go_enter Yba.func11, Yba.ntmps11
  go_upto_if 33 with fail
  go_cut [] (fun w1 => ∃ n g cap, Mid B G w w1 ep lo hi f l bs n g cap)
  case first =>
    go_wp2_with fail
    go_quiet (fail)
    go_upto_block 0 with fail
    go_cut [54] (fun _ w2 => w2 = w.drewN nq)
    case first =>
      cases sg <;> cases one <;> first | (have h := HNO.out; simp at h; done) | (go_wp2_with fail; go_meet; case rel => exact rfl)
    case rest =>
      have hw2 := hcut
      clear hcut
      subst hw2
      go_wp2_with fail
      go_big_region
      have hf0 := Fil.made (bs := bs) n0 (nq + 1) HR.out hBG hG hn0b HRG.out
      clear hc hf hmk hc5 hf5
      generalize (((w.drewN (nq + 1)).alloc (.cells (zrow n0) 30)).setCell ⟨B, 5, none⟩ (.slice (some ⟨w.heap.size, 0, none⟩) n0 n0)) = wm at hf0 ⊢
      have hc := hf0.row.cell
      unfold runCells at hc
      go_wp2_with fail
      refine wp_loop_rounds 1 ?_
      rw [rounds_succ]
      go_wp2_with fail
      go_quiet (fail)
      go_wp2_with fail
      go_meet
      case rel =>
        have hb := HBS.out
        have hn := HN0.out
        exact ⟨n0, w.heap.size, n0, hf0.row, hf0.own, hf0.frm.drewN _, by omega, by omega⟩
  case rest =>
    clear hc hf heq hmk hc5 hf5 h2 h3 h4 HNO HRG
    obtain ⟨n, g, cap, hm⟩ := hcut
    obtain ⟨n0', g0, cap0, hm0⟩ : ∃ n' g' cap', Mid B G w wc ep lo hi f l bs n' g' cap' := ⟨n, g, cap, hm⟩
    clear hm
    go_wp2_with fail
    go_loopg [] 100 (fun gk wr => ∃ n g cap, 100 ≤ gk + n ∧ Mid B G w wr ep lo hi f l bs n g cap)
    case atStart => exact ⟨n0', g0, cap0, by omega, hm0⟩
    case round =>
      clear hm0
      obtain ⟨n, g, cap, hgk, hm⟩ := hrel
      have hc := hm.row.cell
      have hf := hm.row.frozen
      unfold runCells at hc
      have hn64 := hm.le
      by_cases hT : (n : Int) * 64 ≤ (hi : Int) + (d : Int) - (lo : Int)
      · go_wp2_with fail
        go_quiet (fail)
        have hm2 := hm.drewN nq
        clear hc hf hm
        generalize wr.drewN nq = wq at hm2 ⊢
        have hc := hm2.row.cell
        have hf := hm2.row.frozen
        unfold runCells at hc
        have hown := hm2.own
        have hsz : G + 1 ≤ wq.heap.size := by have := hm2.frm.size; omega
        have hone : ∀ u ∈ [Value.int .u64 0], u.oneCell' = true := by simp [Value.oneCell']
        have hml : n + 1 ≤ maxLen := by unfold maxLen; omega
        have hby : (n + 1) * 8 ≤ 140737488355328 := by omega
        have hba : G + 1 ≤ (wq.alloc (.cells #[Value.int .u64 0] 30)).heap.size := by simp; omega
        go_wp2_with (at_builtin; refine wpList_append_own (wq.alloc (.cells #[Value.int .u64 0] 30)) rfl (.tmp 157) (.tmp 158) 68 rfl (G + 1) 30 i0 (.int .u64 0) 1 8 Yba.underlying68 hi0 hz0 hz1 hz2 rfl (by decide) (.slice (some ⟨g, 0, none⟩) n cap) n (wcells bs n) rfl (hown.alloc _) ⟨wq.heap.size, 0, none⟩ 1 1 [.int .u64 0] rfl rfl (cell_one_new _ _ _) hone hml hby hba ?_; intro v' w1 hown' hgrow _; obtain ⟨g', cap', rfl⟩ := own_shape hown' (by omega); obtain ⟨hr1, hm3⟩ := hm2.app hBG (by omega) hown' hgrow; clear hone hml hby hba hown hown' hgrow hc hf hm2; have hc := hr1.cell; have hf := hr1.frozen; unfold runCells at hc; clear hr1)
        go_roundg (gk - 1)
        case measure => omega
        case rel => exact ⟨n + 1, g', cap', by omega, hm3⟩
      · clear hgk
        have hTb : decide ((n : Int) * 64 ≤ (hi : Int) + (d : Int) - (lo : Int)) = false := decide_eq_false hT
        have HT := hide hT
        clear hT
        go_wp2_with fail
        go_quiet (fail)
        have hm2 := hm.drewN nq
        clear hc hf hm
        generalize wr.drewN nq = wq at hm2 ⊢
        have hc := hm2.row.cell
        have hf := hm2.row.frozen
        unfold runCells at hc
        go_wp2_with fail
        go_cut [11] (fun x w5 => x = .int .u64 (bs.length : Int) ∧ ∃ k, w5 = wq.drewN k)
        case first =>
          go_quiet (fail)
          go_wp2_with fail
          go_meet
          case rel => exact ⟨by have hb := HBS.out; rw [show (hi : Int) + 1 - (lo : Int) = (bs.length : Int) by omega], _, rfl⟩
        case rest =>
          obtain ⟨hx, k, hw5⟩ := hcut
          have hm3 := hm2.drewN k
          rw [← hw5] at hm3
          clear hw5 hm2 hc hf
          have hc := hm3.row.cell
          have hf := hm3.row.frozen
          unfold runCells at hc
          have hT := HT.out
          have hb := HBS.out
          have hix : bs.length / 64 < n := by omega
          have cw : wc.cell? ⟨g, bs.length / 64, none⟩ = some (.int .u64 (wd bs (bs.length / 64) : Int)) := by
            rw [hm3.own.cellAt _ (by omega), wcells_get bs n _ hix]
          have fw : wc.frozen? ⟨g, bs.length / 64, none⟩ = false := hm3.own.frozenAt _
          have hgB : ¬ g = B := by have := hm3.gG; omega
          have FIN := hide (hm3.rise hBG d hd m (by omega))
          have HE := hide (or_word bs)
          clear hT hb hTb
          rw [hx]
          clear hx
          generalize bs.length = L at *
          go_wp2_with fail
          go_ret
          rw [HE.out]
          exact ⟨rfl, FIN.out⟩

end Go.Proofs.Ybulkdaie
