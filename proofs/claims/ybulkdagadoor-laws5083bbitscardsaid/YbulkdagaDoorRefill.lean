/-
  The walk of refill.
-/
import Derived.Test.YbulkdagaDoorState
namespace Go.Proofs.YbulkdagaDoor
open Go.RowKit
set_option linter.unusedVariables false
set_option linter.unusedSimpArgs false

set_option maxHeartbeats 8000000 in
set_option maxRecDepth 100000 in
theorem refill_any (w0 : World) (zB sB gd n X : Nat) (ca : Option Addr) (cl cc : Nat) (te : TypeId) (pe : Value) (Z : List Value) (pos bits nb : Nat) (ended : Bool) (w : World)
    (hz : ZI w0 w zB sB gd n X ca cl cc (.iface te pe) Z pos bits nb ended) :
    Calls Ybad.prog 6 #[.pointer (some ⟨zB, 0, none⟩)] w fun e w' => e = .returned (.tuple #[]) ∧ RefPost w0 w' zB sB gd n X ca cl cc (.iface te pe) Z pos nb := by
  obtain ⟨k, pt, p, inn, hr, he, hn, hk, hfin⟩ := hz
  have hc := hr.cell
  have hf := hr.frozen
  unfold zCells at hc
  have hnb := hn.nb64
  have HN := hide hn
  have HFIN := hide hfin
  have HE := hide he
  have HR := hide hr
  clear hn hfin he hr
  go_enter Ybad.func6, Ybad.ntmps6
  go_wp2_with fail
  go_cut [] (fun w1 => LI w0 w1 zB sB gd n X ca cl cc (.iface te pe) Z pos (bits % 2 ^ nb) nb k pt p inn ended)
  case first =>
    go_big_region
    go_wp2_with fail
    go_meet
    case rel =>
      rw [and_mask bits nb HN.out.b64 hnb]
      exact LI.masked HR.out HE.out HN.out hk HFIN.out
  case rest =>
    have HLI := hide hcut
    clear hcut hc hf HN HFIN HE HR hk
    go_wp2_with fail
    go_loopg [] 300 (fun gk wr => ∃ bits' nb' k pt p inn, nb ≤ nb' ∧ 2 * (64 - nb') + (if pt = p then 1 else 0) ≤ gk ∧ LI w0 wr zB sB gd n X ca cl cc (.iface te pe) Z pos bits' nb' k pt p inn ended)
    case atStart => exact ⟨bits % 2 ^ nb, nb, k, pt, p, inn, Nat.le_refl _, by split <;> omega, HLI.out⟩
    case round =>
      clear HLI hnb
      obtain ⟨bits', nb', k, pt, p, inn, hnn, hgk, hli⟩ := hrel
      obtain ⟨ao, c, rfl, hcm, hc4, hao⟩ := hli.num.inn
      have hc := hli.row.cell
      have hf := hli.row.frozen
      unfold zCells at hc
      have hnb := hli.num.nb64
      have hptn := hli.num.ptn
      have hppt := hli.num.ppt
      have hn4 := hli.env.n4
      have HAO := hide hao
      clear hao
      by_cases hA : 56 ≤ nb'
      · have hAi : decide ((nb' : Int) < 56) = false := decide_eq_false (by omega)
        go_wp2_with fail
        go_end0
        exact ⟨rfl, bits', nb', ended, hli.zi, hnn, .inl hA⟩
      · have hAi : (nb' : Int) < 56 := by omega
        by_cases hB : 8 ≤ pt - p
        · have hao := HAO.out (by omega)
          subst hao
          have HLI := hide hli
          have HLD := hide (load_any gd p (pt - p) c bits' nb' (X / 2 ^ (8 * p) % 2 ^ 64) (fun j => X / 2 ^ (8 * (p + j)) % 256) wr.drew hB hcm (fun j _ => Nat.mod_lt _ (by omega)) (fun j hj => hli.data (p + j) (by omega)) (Num.val8 X p _ (fun j _ => rfl)) hnb hli.low)
          have hrow := hli.row
          have henv := hli.env
          clear hli
          have hB8 : (8 : Int) ≤ ((pt - p : Nat) : Int) := by omega
          have hne : ¬ c = (63 - nb') / 8 := by omega
          have hat : (63 - nb') / 8 ≤ pt - p := by omega
          have FIN := hide (fun (w2 : World) => HLI.out.loaded (w2 := w2) (by omega) hB hcm hc4)
          clear HLI
          have hat7 : (63 - nb') / 8 ≤ 7 := by omega
          generalize (bits' + X / 2 ^ (8 * p) % 2 ^ 64 * 2 ^ nb') % 2 ^ 64 = b2 at *
          generalize (63 - nb') / 8 = at' at *
          generalize 56 + nb' % 8 = n2 at *
          generalize pt - p = m at *
          go_wp2_with fail
          go_cut [2] (fun v w1 => v = .int .i64 (at' : Int) ∧ RowAt w1 zB 46 (zCells sB (.slice (some ⟨gd, p, none⟩) m c) b2 n2 (if ended = true then Value.iface te pe else .nilIface) Z) ∧ Env w0 w1 zB sB gd n X ca cl cc (.iface te pe) k pt (if ended = true then 1 else 0))
          case first =>
            go_region_with (go_at_call 8; refine HLD.out.mono ?_; rintro e w2 ⟨rfl, hb2⟩; have hrz2 := RowAt.below (w := wr.drew) hrow hb2; have henv2 := Env.bel (w := wr.drew) (henv.drewN 1) hb2; clear hc hf; have hc := hrz2.cell; have hf := hrz2.frozen; unfold zCells at hc)
            all_goals
              go_wp2_with fail
              go_meet
              case rel =>
                refine ⟨rfl, (hrz2.setCell 2 _).setCell 3 _, henv2.zg ?_⟩
                exact grown_setCell (grown_setCell (World.grownBy.refl _ _) 2 _) 3 _
          case rest =>
            obtain ⟨hv, hr3, he3⟩ := hcut
            rw [hv]
            clear hv hc hf hrow henv
            have hc := hr3.cell
            have hf := hr3.frozen
            unfold zCells at hc
            go_wp2_with fail
            refine bodyPost_ret (results_none rfl _ _ _) rfl ?_
            obtain ⟨b9, n9, e9, hzi, hle, hor⟩ := FIN.out wc hr3 he3
            exact ⟨rfl, b9, n9, e9, hzi, by omega, hor⟩
        · by_cases hC : pt = p
          · subst hC
            have hm8 : ¬ (8 : Int) ≤ ((pt - pt : Nat) : Int) := by omega
            have hmz : (((pt - pt : Nat) : Int) == 0) = true := by simp
            have hgk2 : 2 * (64 - nb') + 1 ≤ gk := by simpa using hgk
            clear hgk
            have HLI := hide hli
            have hs := hli.env.s
            have hkp := hli.kp
            have hcl4 := hli.env.c4
            have HCUT := hide hli.env.cut
            have hzs := hli.env.zs
            have hrow := hli.row
            clear hli HAO
            generalize hmm : pt - pt = m at *
            have HM := hide hmm
            clear hmm
            cases ended
            · have hmeth := fun wx => meth_next ⟨sB, 0, none⟩ wx
              simp only [sl, String.reduceSingleton, String.reduceAppend] at hmeth
              by_cases hpn : pt < n
              · have HNX := hide (next_more sB gd n ca cl cc k pt (.iface te pe) 0 wr hs hn4 hpn hkp hcl4 HCUT.out)
                clear hs HCUT
                go_wp2_with (go_at_call 25; refine HNX.out.mono ?_; rintro e w2 ⟨pt', h1, h2, rfl, hs2, hg2⟩; have hrz2 := hrow.grown hg2 (by simp; omega); clear hc hf; have hc := hrz2.cell; have hf := hrz2.frozen; unfold zCells at hc; clear hrz2)
                go_roundg (gk - 1)
                case measure => omega
                case rel =>
                  exact ⟨bits', nb', k + 1, pt', pt, _, hnn, by rw [if_neg (by omega)]; omega, HLI.out.more h1 h2 hs2 hg2⟩
              · obtain rfl : pt = n := by omega
                have HNX := hide (next_end sB gd pt ca cl cc k (.iface te pe) 0 wr hs hn4 (by omega) (by omega))
                clear hs HCUT
                go_wp2_with (go_at_call 25; refine HNX.out.mono ?_; rintro e w2 ⟨rfl, hs2, hg2⟩; have hrz2 := hrow.grown hg2 (by simp; omega); clear hc hf; have hc := hrz2.cell; have hf := hrz2.frozen; unfold zCells at hc; clear hrz2)
                refine bodyPost_ret (results_none rfl _ _ _) rfl ?_
                exact ⟨rfl, bits', nb', true, HLI.out.stop hs2 hg2, hnn, .inr rfl⟩
            · go_wp2_with fail
              refine bodyPost_ret (results_none rfl _ _ _) rfl ?_
              exact ⟨rfl, bits', nb', true, HLI.out.zi, hnn, .inr rfl⟩
          · have hp : p < pt := by omega
            have hao := HAO.out hp
            subst hao
            have cd : wr.cell? ⟨gd, p, none⟩ = some (.int .u8 ((X / 2 ^ (8 * p) % 256 : Nat) : Int)) := hli.data p (by omega)
            have hb8 : X / 2 ^ (8 * p) % 256 < 256 := Nat.mod_lt _ (by omega)
            have HOR := hide (or_byte bits' (X / 2 ^ (8 * p) % 256) nb' hli.low (by omega) hb8)
            have HLB := hide (fun (w' : World) (ao' : Option Addr) (c' : Nat) => hli.byted (w' := w') (by omega) hp ao' c')
            generalize X / 2 ^ (8 * p) % 256 = by8 at *
            have hm0 : 0 < pt - p := by omega
            have hm8 : ¬ (8 : Int) ≤ ((pt - p : Nat) : Int) := by omega
            have hmz : (((pt - p : Nat) : Int) == 0) = false := by simp; omega
            have hm1 : (1 : Int) ≤ ((pt - p : Nat) : Int) := by omega
            have HR := hide hli.row
            clear hli hptn hppt hn4
            generalize hmm : pt - p = m at *
            have HM := hide hmm
            clear hmm
            go_wp2_with fail
            go_cut [] (fun w1 => w1 = (wr.setCell ⟨zB, 2, none⟩ (.int .u64 ((bits' + by8 * 2 ^ nb' : Nat) : Int))).drew)
            case first =>
              go_big_region
              go_wp2_with fail
              go_meet
              case rel => rw [HOR.out]
            case rest =>
              have hwc := hcut
              subst hwc
              go_wp2_with fail
              all_goals
                have hE : ((bits' : Int) + (by8 : Int) * 2 ^ nb') = ((bits' + by8 * 2 ^ nb' : Nat) : Int) := by simp
                rw [hE]
                clear hE
                go_roundg (gk - 1)
                case measure => rw [if_neg hC] at hgk; omega
                case rel =>
                  rw [if_neg hC] at hgk
                  have hM := HM.out
                  have hg := grown_drew (grown_setCell (grown_setCell (grown_setCell (World.grownBy.refl wr (some zB)) 2 (.int .u64 ((bits' + by8 * 2 ^ nb' : Nat) : Int))) 1 (.slice (some ⟨gd, p + 1, none⟩) (m - 1) (c - 1))) 3 (.int .u64 ((nb' : Int) + 8)))
                  have hg0 := grown_drew (grown_setCell (grown_setCell (grown_setCell (World.grownBy.refl wr (some zB)) 2 (.int .u64 ((bits' + by8 * 2 ^ nb' : Nat) : Int))) 1 (.slice (some ⟨gd, p, none⟩) (m - 1) 0)) 3 (.int .u64 ((nb' : Int) + 8)))
                  have hr1 := ((HR.out.setCell 2 (.int .u64 ((bits' + by8 * 2 ^ nb' : Nat) : Int))).setCell 1 (.slice (some ⟨gd, p + 1, none⟩) (m - 1) (c - 1))).setCell 3 (.int .u64 ((nb' : Int) + 8))
                  have hr0 := ((HR.out.setCell 2 (.int .u64 ((bits' + by8 * 2 ^ nb' : Nat) : Int))).setCell 1 (.slice (some ⟨gd, p, none⟩) (m - 1) 0)).setCell 3 (.int .u64 ((nb' : Int) + 8))
                  first
                  | exact ⟨_, nb' + 8, k, pt, p + 1, _, by omega, by split <;> omega, HLB.out _ (some ⟨gd, p + 1, none⟩) (c - 1) (by omega) (by omega) (fun _ => rfl) hr1 hg⟩
                  | exact ⟨_, nb' + 8, k, pt, p + 1, _, by omega, by split <;> omega, HLB.out _ (some ⟨gd, p, none⟩) 0 (by omega) (by omega) (fun hpp => by exfalso; omega) hr0 hg0⟩

end Go.Proofs.YbulkdagaDoor
