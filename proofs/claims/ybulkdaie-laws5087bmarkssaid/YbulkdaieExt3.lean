/-
  The walk of extend, where words are made or held.
-/
import Derived.Test.YbulkdaieExt2
namespace Go.Proofs.Ybulkdaie
open Go.RowKit
set_option linter.unusedVariables false

/-- What stands behind the 'if r.rises == nil': the run as it was, its words in a row. -/
structure Mid (B G : Nat) (w wr : World) (ep : Int) (lo hi : Nat) (f l : Int) (bs : List Bool) (n g cap : Nat) : Prop where
  row : RowAt wr B 70 (runCells ep lo hi f l (.slice (some ⟨g, 0, none⟩) n cap))
  own : wr.ownsRow (G + 1) 30 1 (.slice (some ⟨g, 0, none⟩) n cap) n (wcells bs n)
  frm : Frm B G w wr
  len : bs.length ≤ 64 * n
  le : n ≤ 64

theorem Mid.drewN {B G : Nat} {w wr : World} {ep : Int} {lo hi : Nat} {f l : Int} {bs : List Bool} {n g cap : Nat} (h : Mid B G w wr ep lo hi f l bs n g cap) (k : Nat) : Mid B G w (wr.drewN k) ep lo hi f l bs n g cap :=
  ⟨h.row, h.own, h.frm.drewN k, h.len, h.le⟩
theorem Mid.gG {B G : Nat} {w wr : World} {ep : Int} {lo hi : Nat} {f l : Int} {bs : List Bool} {n g cap : Nat} (h : Mid B G w wr ep lo hi f l bs n g cap) : G < g := by
  have := (h.own.lt g rfl).1
  omega

theorem own_shape {w : World} {base n : Nat} {e : TypeId} {v : Value} {xs : List Value} (h : w.ownsRow base e 1 v n xs) (hn : 0 < n) : ∃ g cap, v = .slice (some ⟨g, 0, none⟩) n cap := by
  rcases h.2 with ⟨_, h0⟩ | ⟨g, cap, _, h1, _⟩
  · omega
  · exact ⟨g, cap, h1⟩

theorem own_setB {w : World} {base n B : Nat} {e : TypeId} {v : Value} {xs : List Value} (h : w.ownsRow base e 1 v n xs) (hB : B < base) (j : Nat) (u : Value) : (w.setCell ⟨B, j, none⟩ u).ownsRow base e 1 v n xs :=
  ownsRow_setCell_below h (a := ⟨B, j, none⟩) hB u

theorem Mid.app {B G : Nat} {w wr w1 : World} {ep : Int} {lo hi : Nat} {f l : Int} {bs : List Bool} {n g cap g' cap' : Nat} {o : Obj} (h : Mid B G w wr ep lo hi f l bs n g cap) (hBG : B < G) (hn : n + 1 ≤ 64)
    (hown : w1.ownsRow (G + 1) 30 1 (.slice (some ⟨g', 0, none⟩) (n + 1) cap') (n + 1) (wcells bs n ++ [.int .u64 0])) (hg : (wr.alloc o).grownBy w1 (some g)) :
    RowAt w1 B 70 (runCells ep lo hi f l (.slice (some ⟨g, 0, none⟩) n cap)) ∧ Mid B G w (w1.setCell ⟨B, 5, none⟩ (.slice (some ⟨g', 0, none⟩) (n + 1) cap')) ep lo hi f l bs (n + 1) g' cap' := by
  have hgG := h.gG
  have hr1 := (h.row.alloc o).grown hg (by simp; omega)
  refine ⟨hr1, ?_, ?_, ?_, by have := h.len; omega, hn⟩
  · have := hr1.setCell 5 (.slice (some ⟨g', 0, none⟩) (n + 1) cap')
    rw [runCells_setv] at this
    exact this
  · rw [wcells_succ bs n h.len]
    exact own_setB hown (by omega) 5 _
  · exact ((h.frm.alloc o).grown hg (fun k e => by cases e; exact .inr hgG)).setB 5 _

theorem Mid.flat {B G : Nat} {w wr : World} {ep : Int} {lo hi : Nat} {f l : Int} {bs : List Bool} {n g cap : Nat} (h : Mid B G w wr ep lo hi f l bs n g cap) (hBG : B < G) (d : Nat) (hd : 1 ≤ d) (m : Int) (hT : bs.length + d ≤ 64 * n) :
    ∃ v', RowAt ((wr.setCell ⟨B, 2, none⟩ (.int .u64 ((hi : Int) + (d : Int)))).setCell ⟨B, 4, none⟩ (.int .i64 m)) B 70 (runCells ep lo (hi + d) f m v') ∧
      Words ((wr.setCell ⟨B, 2, none⟩ (.int .u64 ((hi : Int) + (d : Int)))).setCell ⟨B, 4, none⟩ (.int .i64 m)) G v' (bs ++ false :: List.replicate (d - 1) false) ∧
      Frm B G w ((wr.setCell ⟨B, 2, none⟩ (.int .u64 ((hi : Int) + (d : Int)))).setCell ⟨B, 4, none⟩ (.int .i64 m)) := by
  obtain ⟨e, rfl⟩ : ∃ e, d = e + 1 := ⟨d - 1, by omega⟩
  refine ⟨_, (h.row.setCell 2 _).setCell 4 _, ⟨n, g, cap, rfl, by simp; omega, h.le, ?_⟩, (h.frm.setB 2 _).setB 4 _⟩
  rw [show bs ++ false :: List.replicate (e + 1 - 1) false = bs ++ List.replicate (e + 1) false from rfl, wcells_falses]
  exact own_setB (own_setB h.own (by omega) _ _) (by omega) _ _

theorem Mid.rise {B G : Nat} {w wr : World} {ep : Int} {lo hi : Nat} {f l : Int} {bs : List Bool} {n g cap : Nat} (h : Mid B G w wr ep lo hi f l bs n g cap) (hBG : B < G) (d : Nat) (hd : 1 ≤ d) (m : Int) (hT : bs.length + d ≤ 64 * n) :
    ∃ v', RowAt (((wr.setCell ⟨g, bs.length / 64, none⟩ (.int .u64 ((wd bs (bs.length / 64) + 2 ^ (bs.length % 64) : Nat) : Int))).setCell ⟨B, 2, none⟩ (.int .u64 ((hi : Int) + (d : Int)))).setCell ⟨B, 4, none⟩ (.int .i64 m)) B 70 (runCells ep lo (hi + d) f m v') ∧
      Words (((wr.setCell ⟨g, bs.length / 64, none⟩ (.int .u64 ((wd bs (bs.length / 64) + 2 ^ (bs.length % 64) : Nat) : Int))).setCell ⟨B, 2, none⟩ (.int .u64 ((hi : Int) + (d : Int)))).setCell ⟨B, 4, none⟩ (.int .i64 m)) G v' (bs ++ true :: List.replicate (d - 1) false) ∧
      Frm B G w (((wr.setCell ⟨g, bs.length / 64, none⟩ (.int .u64 ((wd bs (bs.length / 64) + 2 ^ (bs.length % 64) : Nat) : Int))).setCell ⟨B, 2, none⟩ (.int .u64 ((hi : Int) + (d : Int)))).setCell ⟨B, 4, none⟩ (.int .i64 m)) := by
  have hgG := h.gG
  have st := h.own.stored (bs.length / 64) (.int .u64 ((wd bs (bs.length / 64) + 2 ^ (bs.length % 64) : Nat) : Int))
  rw [← wcells_snoc_true bs n (by omega)] at st
  refine ⟨_, ((h.row.grown st.2 (by simp; omega)).setCell 2 _).setCell 4 _, ⟨n, g, cap, rfl, by simp; omega, h.le, ?_⟩, ((h.frm.setHi hgG _ _).setB 2 _).setB 4 _⟩
  rw [show bs ++ true :: List.replicate (d - 1) false = (bs ++ [true]) ++ List.replicate (d - 1) false by simp, wcells_falses]
  exact own_setB (own_setB st.1 (by omega) _ _) (by omega) _ _

theorem or_bit (x j : Nat) (hx : x < 18446744073709551616) (hj : j < 64) : bits .or .u64 (x : Int) (IntKind.u64.wrap (2 ^ j)) = ((x ||| 2 ^ j : Nat) : Int) := by
  have h2 : 2 ^ j < 18446744073709551616 := Nat.lt_of_lt_of_le (Nat.pow_lt_pow_right (by omega) hj) (by decide)
  have e : IntKind.u64.wrap ((2 : Int) ^ j) = ((2 ^ j : Nat) : Int) := by
    rw [show ((2 : Int) ^ j) = ((2 ^ j : Nat) : Int) by simp, IntKind.wrap_u64]
    generalize 2 ^ j = y at *
    omega
  rw [e]
  exact u64_or_nat _ _ hx h2
theorem or_word (bs : List Bool) : bits .or .u64 (wd bs (bs.length / 64) : Int) (IntKind.u64.wrap (2 ^ (bs.length % 64))) = ((wd bs (bs.length / 64) + 2 ^ (bs.length % 64) : Nat) : Int) := by
  rw [or_bit _ _ (wd_lt _ _) (by omega), wd_or]

set_option maxHeartbeats 1000000 in
set_option maxRecDepth 100000 in
theorem ext_words (B G lo hi d : Nat) (ep f l m : Int) (v : Value) (bs : List Bool) (w : World) (hr : RowAt w B 70 (runCells ep lo hi f l v)) (hBG : B < G) (hG : G < w.heap.size)
    (hbs : hi + 1 = lo + bs.length) (hb2 : bs.length ≤ 3000) (hd : 1 ≤ d) (hd4 : d ≤ 4) (hhi : (hi : Int) + 4 < 18446744073709551615) (rs : Bool) (h1 : (m == wrap64 (l + 1)) = rs) (h1' : rs = false → (m != l) = false)
    (hv : Words w G v bs) :
    Calls Yba.prog 11 #[.pointer (some ⟨B, 0, none⟩), .int .u64 ((hi : Int) + (d : Int)), .int .i64 m] w fun e w' => e = .returned (.bool true) ∧ ∃ v', RowAt w' B 70 (runCells ep lo (hi + d) f m v') ∧ Words w' G v' (bs ++ rs :: List.replicate (d - 1) false) ∧ Frm B G w w' := by
  obtain ⟨i0, hi0, hz0, hz1, hz2⟩ := info_parts Yba.info30
  have HBS := hide hbs
  have hlh : (lo : Int) ≤ (hi : Int) + 1 := by omega
  have hlh2 : (hi : Int) + 1 ≤ (lo : Int) + 3000 := by omega
  obtain ⟨n0, g0, cap0, rfl, hn0, hn64, hown⟩ := hv
  have hc := hr.cell
  unfold runCells at hc
  have heq := fun (wx : World) => Lib.run_eql_slice_nil (P := Yba.prog) wx 68 30 (some ⟨g0, 0, none⟩) n0 cap0 0 0 Yba.underlying68
  clear hbs
  cases rs
  · have hne := h1' rfl
    clear h1'
    go_enter Yba.func11, Yba.ntmps11
    go_wp2_with fail
    go_loopg [] 100 (fun gk wr => ∃ n g cap, 100 ≤ gk + n ∧ Mid B G w wr ep lo hi f l bs n g cap)
    case atStart => exact ⟨n0, g0, cap0, by omega, hr, hown, Frm.refl _ _ _, hn0, hn64⟩
    case round =>
      clear hc hr hown heq hn0 hn64
      obtain ⟨n, g, cap, hgk, hm⟩ := hrel
      have hc := hm.row.cell
      have hf := hm.row.frozen
      unfold runCells at hc
      have hn64 := hm.le
      by_cases hT : (n : Int) * 64 ≤ (hi : Int) + (d : Int) - (lo : Int)
      · go_wp2_with fail
        go_quiet (fail)
        have hm2 := hm.drewN nq
        clear hc hf hm
        generalize wr.drewN nq = wq at hm2 ⊢
        have hc := hm2.row.cell
        have hf := hm2.row.frozen
        unfold runCells at hc
        have hown := hm2.own
        have hsz : G + 1 ≤ wq.heap.size := by have := hm2.frm.size; omega
        have hone : ∀ u ∈ [Value.int .u64 0], u.oneCell' = true := by simp [Value.oneCell']
        have hml : n + 1 ≤ maxLen := by unfold maxLen; omega
        have hby : (n + 1) * 8 ≤ 140737488355328 := by omega
        have hba : G + 1 ≤ (wq.alloc (.cells #[Value.int .u64 0] 30)).heap.size := by simp; omega
        go_wp2_with (at_builtin; refine wpList_append_own (wq.alloc (.cells #[Value.int .u64 0] 30)) rfl (.tmp 157) (.tmp 158) 68 rfl (G + 1) 30 i0 (.int .u64 0) 1 8 Yba.underlying68 hi0 hz0 hz1 hz2 rfl (by decide) (.slice (some ⟨g, 0, none⟩) n cap) n (wcells bs n) rfl (hown.alloc _) ⟨wq.heap.size, 0, none⟩ 1 1 [.int .u64 0] rfl rfl (cell_one_new _ _ _) hone hml hby hba ?_; intro v' w1 hown' hgrow _; obtain ⟨g', cap', rfl⟩ := own_shape hown' (by omega); obtain ⟨hr1, hm3⟩ := hm2.app hBG (by omega) hown' hgrow; clear hone hml hby hba hown hown' hgrow hc hf hm2; have hc := hr1.cell; have hf := hr1.frozen; unfold runCells at hc; clear hr1)
        go_roundg (gk - 1)
        case measure => omega
        case rel => exact ⟨n + 1, g', cap', by omega, hm3⟩
      · clear hgk
        have hTb : decide ((n : Int) * 64 ≤ (hi : Int) + (d : Int) - (lo : Int)) = false := decide_eq_false hT
        have HT := hide hT
        clear hT
        go_wp2_with fail
        go_quiet (fail)
        have hm2 := hm.drewN nq
        clear hc hf hm
        generalize wr.drewN nq = wq at hm2 ⊢
        have hc := hm2.row.cell
        have hf := hm2.row.frozen
        unfold runCells at hc
        go_wp2_with fail
        go_ret
        have hT := HT.out
        have hb := HBS.out
        exact ⟨rfl, hm2.flat hBG d hd m (by omega)⟩
  · clear h1'
    go_enter Yba.func11, Yba.ntmps11
    go_wp2_with fail
    go_loopg [] 100 (fun gk wr => ∃ n g cap, 100 ≤ gk + n ∧ Mid B G w wr ep lo hi f l bs n g cap)
    case atStart => exact ⟨n0, g0, cap0, by omega, hr, hown, Frm.refl _ _ _, hn0, hn64⟩
    case round =>
      clear hc hr hown heq hn0 hn64
      obtain ⟨n, g, cap, hgk, hm⟩ := hrel
      have hc := hm.row.cell
      have hf := hm.row.frozen
      unfold runCells at hc
      have hn64 := hm.le
      by_cases hT : (n : Int) * 64 ≤ (hi : Int) + (d : Int) - (lo : Int)
      · go_wp2_with fail
        go_quiet (fail)
        have hm2 := hm.drewN nq
        clear hc hf hm
        generalize wr.drewN nq = wq at hm2 ⊢
        have hc := hm2.row.cell
        have hf := hm2.row.frozen
        unfold runCells at hc
        have hown := hm2.own
        have hsz : G + 1 ≤ wq.heap.size := by have := hm2.frm.size; omega
        have hone : ∀ u ∈ [Value.int .u64 0], u.oneCell' = true := by simp [Value.oneCell']
        have hml : n + 1 ≤ maxLen := by unfold maxLen; omega
        have hby : (n + 1) * 8 ≤ 140737488355328 := by omega
        have hba : G + 1 ≤ (wq.alloc (.cells #[Value.int .u64 0] 30)).heap.size := by simp; omega
        go_wp2_with (at_builtin; refine wpList_append_own (wq.alloc (.cells #[Value.int .u64 0] 30)) rfl (.tmp 157) (.tmp 158) 68 rfl (G + 1) 30 i0 (.int .u64 0) 1 8 Yba.underlying68 hi0 hz0 hz1 hz2 rfl (by decide) (.slice (some ⟨g, 0, none⟩) n cap) n (wcells bs n) rfl (hown.alloc _) ⟨wq.heap.size, 0, none⟩ 1 1 [.int .u64 0] rfl rfl (cell_one_new _ _ _) hone hml hby hba ?_; intro v' w1 hown' hgrow _; obtain ⟨g', cap', rfl⟩ := own_shape hown' (by omega); obtain ⟨hr1, hm3⟩ := hm2.app hBG (by omega) hown' hgrow; clear hone hml hby hba hown hown' hgrow hc hf hm2; have hc := hr1.cell; have hf := hr1.frozen; unfold runCells at hc; clear hr1)
        go_roundg (gk - 1)
        case measure => omega
        case rel => exact ⟨n + 1, g', cap', by omega, hm3⟩
      · clear hgk
        have hTb : decide ((n : Int) * 64 ≤ (hi : Int) + (d : Int) - (lo : Int)) = false := decide_eq_false hT
        have HT := hide hT
        clear hT
        go_wp2_with fail
        go_quiet (fail)
        have hm2 := hm.drewN nq
        clear hc hf hm
        generalize wr.drewN nq = wq at hm2 ⊢
        have hc := hm2.row.cell
        have hf := hm2.row.frozen
        unfold runCells at hc
        go_wp2_with fail
        go_cut [11] (fun x w5 => x = .int .u64 (bs.length : Int) ∧ ∃ k, w5 = wq.drewN k)
        case first =>
          go_quiet (fail)
          go_wp2_with fail
          go_meet
          case rel => exact ⟨by have hb := HBS.out; rw [show (hi : Int) + 1 - (lo : Int) = (bs.length : Int) by omega], _, rfl⟩
        case rest =>
          obtain ⟨hx, k, hw5⟩ := hcut
          have hm3 := hm2.drewN k
          rw [← hw5] at hm3
          clear hw5 hm2 hc hf
          have hc := hm3.row.cell
          have hf := hm3.row.frozen
          unfold runCells at hc
          have hT := HT.out
          have hb := HBS.out
          have hix : bs.length / 64 < n := by omega
          have cw : wc.cell? ⟨g, bs.length / 64, none⟩ = some (.int .u64 (wd bs (bs.length / 64) : Int)) := by
            rw [hm3.own.cellAt _ (by omega), wcells_get bs n _ hix]
          have fw : wc.frozen? ⟨g, bs.length / 64, none⟩ = false := hm3.own.frozenAt _
          have hgB : ¬ g = B := by have := hm3.gG; omega
          have FIN := hide (hm3.rise hBG d hd m (by omega))
          have HE := hide (or_word bs)
          clear hT hb hTb
          rw [hx]
          clear hx
          generalize bs.length = L at *
          go_wp2_with fail
          go_ret
          rw [HE.out]
          exact ⟨rfl, FIN.out⟩

end Go.Proofs.Ybulkdaie
