/-
  The search among the spans of one block.
-/
import Derived.Test.YbulkdaieS3
namespace Go.Proofs.Ybulkdaie.Scr
open Go.RowKit
set_option linter.unusedVariables false
set_option linter.unusedSimpArgs false

theorem bsome {B : Nat} {W w1 : World} (hb : Below B W w1) (hB : W.heap.size ≤ B) {a : Addr} {v : Value} (h : W.cell? a = some v) : w1.cell? a = some v := by
  rw [World.cell?_of_block (hb.block a.block (Nat.lt_of_lt_of_le (World.block_lt_of_cell? W a h) hB))]
  exact h

theorem hide {p : Prop} (h : p) : Hid p := h

/-- The spans L lie in block g. -/
def SpAt (w : World) (g : Nat) (L : List Sp) : Prop := ∀ j s, L[j]? = some s → w.cell? ⟨g, j * 3, none⟩ = some (.int .u64 (s.e : Int)) ∧ w.cell? ⟨g, j * 3 + 1, none⟩ = some (.int .u64 (s.lo : Int)) ∧ w.cell? ⟨g, j * 3 + 2, none⟩ = some (.int .u64 (s.hi : Int))
theorem SpAt.bel {B : Nat} {w w1 : World} {g : Nat} {L : List Sp} (h : SpAt w g L) (hb : Below B w w1) (hB : w.heap.size ≤ B) : SpAt w1 g L := fun j s hs => by
  obtain ⟨h1, h2, h3⟩ := h j s hs
  exact ⟨bsome hb hB h1, bsome hb hB h2, bsome hb hB h3⟩

/-- How many lie under (e, c). -/
structure Cut (L : List Sp) (e c i : Nat) : Prop where
  le : i ≤ L.length
  un : ∀ k s, k < i → L[k]? = some s → s.under e c
  ov : ∀ k s, i ≤ k → L[k]? = some s → ¬ s.under e c

theorem bsf_any (g n cap : Nat) (L : List Sp) (e c : Nat) (w : World) (hL : Good L) (hn : L.length = n) (hnc : n ≤ cap) (hsp : SpAt w g L) :
    Calls Yba.prog 29 #[.slice (some ⟨g, 0, none⟩) n cap, pos e c, .func (.func 30) #[] #[]] w fun r w' => ∃ (i : Nat) (v : Value), Cut L e c i ∧ r = .returned (.tuple #[.int .i64 (i : Int), v]) ∧ Below w.heap.size w w' := by
  have hn18 : n ≤ 18 := by rw [← hn]; exact hL.len
  unfold pos
  have HSP := hide hsp
  have HL := hide hL
  clear hsp hL
  go_enter Yba.func29, Yba.ntmps29
  go_wp2_with fail
  go_loopg [9, 10] n (fun gk iv jv wr => ∃ i j : Nat, i ≤ j ∧ j ≤ n ∧ j ≤ gk + i ∧ iv = .int .i64 (i : Int) ∧ jv = .int .i64 (j : Int) ∧ (∀ k s, k < i → L[k]? = some s → s.under e c) ∧ (∀ k s, j ≤ k → L[k]? = some s → ¬ s.under e c) ∧
    Below w.heap.size w wr ∧ w.heap.size < wr.heap.size ∧ wr.cell? ⟨w.heap.size, 0, none⟩ = some (.int .u64 (e : Int)) ∧ wr.cell? ⟨w.heap.size, 1, none⟩ = some (.int .u64 (c : Int)))
  case atStart =>
    refine ⟨0, n, by omega, by omega, by omega, rfl, rfl, fun k s hk => by omega, fun k s hk hs => ?_, (Below.refl _ _).alloc (Nat.le_refl _) _, by simp, by simp, by simp⟩
    rw [List.getElem?_eq_none (by omega)] at hs
    cases hs
  case round =>
    obtain ⟨i, j, hij, hjn, hgk, rfl, rfl, hun, hov, hbl, hsz, hc0, hc1⟩ := hrel
    have HUN := hide hun
    have HOV := hide hov
    clear hun hov
    have hspr := HSP.out.bel hbl (Nat.le_refl _)
    by_cases hlt : i < j
    · obtain ⟨h, hh⟩ : ∃ h, h = (i + j) / 2 := ⟨_, rfl⟩
      obtain ⟨s, hs⟩ : ∃ s, L[h]? = some s := ⟨_, List.getElem?_eq_getElem (by omega)⟩
      obtain ⟨hc2, hc3, hc4⟩ := hspr h s hs
      have hlti : (i : Int) < (j : Int) := by omega
      have HS := hide hs
      have HH := hide hh
      clear hspr hs hh hn
      have hhn : (h : Int) < (n : Int) := by have := HH.out; omega
      have hh0 : (0 : Int) ≤ (h : Int) := by omega
      have HM : Hid (((i : Int) + (j : Int)) / 2 = (h : Int)) := by have := HH.out; show _ = _; omega
      by_cases hu : cmpP s.e s.hi e c < 0
      · go_upto_region 5 with fail
        rw [HM.out]
        go_region_held3 (fun w' => Below w.heap.size w w' ∧ w.heap.size < w'.heap.size ∧ w'.cell? ⟨w.heap.size, 0, none⟩ = some (.int .u64 (e : Int)) ∧ w'.cell? ⟨w.heap.size, 1, none⟩ = some (.int .u64 (c : Int)) ∧ w'.cell? ⟨g, h * 3, none⟩ = some (.int .u64 (s.e : Int)) ∧ w'.cell? ⟨g, h * 3 + 1, none⟩ = some (.int .u64 (s.lo : Int)) ∧ w'.cell? ⟨g, h * 3 + 2, none⟩ = some (.int .u64 (s.hi : Int)))
          (first | (exact ⟨hbl.drew, hsz, hc0, hc1, hc2, hc3, hc4⟩) | (go_split_ands; refine ⟨kstep ‹_› hb2 (by omega), by have := hb2.size; omega, ?_, ?_, ?_, ?_, ?_⟩ <;> (refine bsome hb2 (Nat.le_refl _) ?_; assumption)))
          (first
          | (go_at_call 30; refine (find2_any s.e s.lo s.hi e c _).mono ?_; rintro r w2 ⟨rfl, hb2⟩))
        clear hbl hsz hc0 hc1 hc2 hc3 hc4
        rename_i hHeld
        obtain ⟨hbl, hsz, hc0, hc1, hc2, hc3, hc4⟩ := hHeld
        go_wp2_with fail
        go_roundg (gk - 1)
        case measure => have := HH.out; omega
        case rel =>
          have h1 := HH.out
          refine ⟨h + 1, j, by omega, by omega, by omega, by simp, rfl, fun k t hk ht => ?_, HOV.out, hbl, hsz, hc0, hc1⟩
          exact under_mono HL.out e c (by omega : k ≤ h) ht HS.out ((cmpP_under s e c).1 hu)
      · go_upto_region 5 with fail
        rw [HM.out]
        go_region_held3 (fun w' => Below w.heap.size w w' ∧ w.heap.size < w'.heap.size ∧ w'.cell? ⟨w.heap.size, 0, none⟩ = some (.int .u64 (e : Int)) ∧ w'.cell? ⟨w.heap.size, 1, none⟩ = some (.int .u64 (c : Int)) ∧ w'.cell? ⟨g, h * 3, none⟩ = some (.int .u64 (s.e : Int)) ∧ w'.cell? ⟨g, h * 3 + 1, none⟩ = some (.int .u64 (s.lo : Int)) ∧ w'.cell? ⟨g, h * 3 + 2, none⟩ = some (.int .u64 (s.hi : Int)))
          (first | (exact ⟨hbl.drew, hsz, hc0, hc1, hc2, hc3, hc4⟩) | (go_split_ands; refine ⟨kstep ‹_› hb2 (by omega), by have := hb2.size; omega, ?_, ?_, ?_, ?_, ?_⟩ <;> (refine bsome hb2 (Nat.le_refl _) ?_; assumption)))
          (first
          | (go_at_call 30; refine (find2_any s.e s.lo s.hi e c _).mono ?_; rintro r w2 ⟨rfl, hb2⟩))
        clear hbl hsz hc0 hc1 hc2 hc3 hc4
        rename_i hHeld
        obtain ⟨hbl, hsz, hc0, hc1, hc2, hc3, hc4⟩ := hHeld
        go_wp2_with fail
        go_roundg (gk - 1)
        case measure => have := HH.out; omega
        case rel =>
          have h1 := HH.out
          refine ⟨i, h, by omega, by omega, by omega, rfl, rfl, HUN.out, fun k t hk ht htu => ?_, hbl, hsz, hc0, hc1⟩
          have h2 := (cmpP_under s e c).2 (under_mono HL.out e c hk HS.out ht htu)
          omega
    · obtain rfl : i = j := by omega
      have hnl : ¬ (i : Int) < (i : Int) := by omega
      have HSPR := hide hspr
      clear hspr
      by_cases hin : i < n
      · obtain ⟨s, hs⟩ : ∃ s, L[i]? = some s := ⟨_, List.getElem?_eq_getElem (by omega)⟩
        obtain ⟨hc2, hc3, hc4⟩ := HSPR.out i s hs
        have hini : (i : Int) < (n : Int) := by omega
        have hi0 : (0 : Int) ≤ (i : Int) := by omega
        have HS := hide hs
        clear hs
        go_upto_region 8 with fail
        go_region_held3 (fun w' => Below w.heap.size w w' ∧ w.heap.size < w'.heap.size ∧ w'.cell? ⟨w.heap.size, 0, none⟩ = some (.int .u64 (e : Int)) ∧ w'.cell? ⟨w.heap.size, 1, none⟩ = some (.int .u64 (c : Int)) ∧ w'.cell? ⟨g, i * 3, none⟩ = some (.int .u64 (s.e : Int)) ∧ w'.cell? ⟨g, i * 3 + 1, none⟩ = some (.int .u64 (s.lo : Int)) ∧ w'.cell? ⟨g, i * 3 + 2, none⟩ = some (.int .u64 (s.hi : Int)))
          (first | (exact ⟨hbl.drew, hsz, hc0, hc1, hc2, hc3, hc4⟩) | (go_split_ands; refine ⟨kstep ‹_› hb2 (by omega), by have := hb2.size; omega, ?_, ?_, ?_, ?_, ?_⟩ <;> (refine bsome hb2 (Nat.le_refl _) ?_; assumption)))
          (first
          | (go_at_call 30; refine (find2_any s.e s.lo s.hi e c _).mono ?_; rintro r w2 ⟨rfl, hb2⟩))
        all_goals
          clear hbl hsz hc0 hc1 hc2 hc3 hc4
          rename_i hHeld
          obtain ⟨hbl, hsz, hc0, hc1, hc2, hc3, hc4⟩ := hHeld
          go_wp2_with fail
          go_ret2
          exact ⟨i, _, ⟨by omega, HUN.out, HOV.out⟩, rfl, hbl⟩
      · have hini : decide ((i : Int) < (n : Int)) = false := by simp; omega
        go_upto_region 8 with fail
        go_quiet (fail)
        go_wp2_with fail
        go_ret2
        first | exact ⟨i, ⟨by omega, HUN.out, HOV.out⟩, ⟨_, rfl⟩, below_drewN hbl _⟩ | exact ⟨i, ⟨_, rfl⟩, ⟨by omega, HUN.out, HOV.out⟩, below_drewN hbl _⟩ | trace_state
end Go.Proofs.Ybulkdaie.Scr
