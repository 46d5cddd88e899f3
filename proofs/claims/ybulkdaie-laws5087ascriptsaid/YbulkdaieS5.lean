/-
  The search among the blocks (there is one at most).
-/
import Derived.Test.YbulkdaieS4
namespace Go.Proofs.Ybulkdaie.Scr
open Go.RowKit
set_option linter.unusedVariables false
set_option linter.unusedSimpArgs false

set_option maxRecDepth 100000 in
theorem find1_any (g n m cap : Nat) (L : List Sp) (s : Sp) (e' c' : Nat) (w : World) (hsp : SpAt w g L) (hs : L[m]? = some s) (hn : n = m + 1) (hm : m ≤ 18) :
    Calls Yba.prog 28 #[.slice (some ⟨g, 0, none⟩) n cap, pos e' c'] w fun r w' => r = .returned (.int .i64 (cmpP s.e s.hi e' c')) ∧ Below w.heap.size w w' := by
  have hmeth := fun wx => meth_bounds s.e s.lo s.hi wx
  simp only [sl, String.reduceSingleton, String.reduceAppend] at hmeth
  obtain ⟨hc2, hc3, hc4⟩ := hsp m s hs
  have hmi : (m : Int) < (n : Int) := by omega
  have hm0 : (0 : Int) ≤ (m : Int) := by omega
  have hwr : IntKind.i64.wrap ((n : Int) - 1) = (m : Int) := by rw [IntKind.wrap_i64]; omega
  have hwr2 : wrap64 ((n : Int) - 1) = (m : Int) := by rw [IntWalk.wrap64_in _ ⟨by omega, by omega⟩]; omega
  have b2 := World.block_lt_of_cell? w _ hc2
  simp at b2
  clear hsp hs hn
  unfold pos
  go_enter Yba.func28, Yba.ntmps28
  go_wp2_with fail
  go_region_held3 (fun w' => Below w.heap.size w w' ∧ w.heap.size < w'.heap.size ∧ w'.cell? ⟨w.heap.size, 0, none⟩ = some (.int .u64 (e' : Int)) ∧ w'.cell? ⟨w.heap.size, 1, none⟩ = some (.int .u64 (c' : Int)) ∧ w'.cell? ⟨g, m * 3, none⟩ = some (.int .u64 (s.e : Int)) ∧ w'.cell? ⟨g, m * 3 + 1, none⟩ = some (.int .u64 (s.lo : Int)) ∧ w'.cell? ⟨g, m * 3 + 2, none⟩ = some (.int .u64 (s.hi : Int)))
    (first | (refine ⟨((Below.refl _ _).alloc (Nat.le_refl _) _).drew, by simp, by simp, by simp, bsome ((Below.refl _ _).alloc (Nat.le_refl _) _).drew (Nat.le_refl _) hc2, bsome ((Below.refl _ _).alloc (Nat.le_refl _) _).drew (Nat.le_refl _) hc3, bsome ((Below.refl _ _).alloc (Nat.le_refl _) _).drew (Nat.le_refl _) hc4⟩) | (go_split_ands; refine ⟨kstep ‹_› hb2 (by omega), by have := hb2.size; omega, ?_, ?_, ?_, ?_, ?_⟩ <;> (refine bsome hb2 (Nat.le_refl _) ?_; assumption)))
    (first
    | (go_at_call 16; refine (spanLast_any s.e s.lo s.hi _).mono ?_; unfold pos; rintro r w2 ⟨rfl, hb2⟩)
    | (go_at_call 17; refine (compare_any s.e s.hi e' c' _).mono ?_; rintro r w2 ⟨rfl, hb2⟩)
    | (go_at_call 73; refine (bounds_any s.e s.lo s.hi _).mono ?_; unfold spn; rintro r w2 ⟨rfl, hb2⟩))
  all_goals
    rename_i hHeld
    clear hc2 hc3 hc4
    obtain ⟨hbl, hsz, hc0, hc1, hc2, hc3, hc4⟩ := hHeld
    go_wp2_with fail
    go_ret
    exact ⟨rfl, hbl⟩

theorem bsfB_nil (x : Option Addr) (cap e c : Nat) (w : World) :
    Calls Yba.prog 27 #[.slice x 0 cap, pos e c, .func (.func 28) #[] #[]] w fun r w' => (∃ v : Value, r = .returned (.tuple #[.int .i64 0, v])) ∧ Below w.heap.size w w' := by
  unfold pos
  go_enter Yba.func27, Yba.ntmps27
  go_wp2_with fail
  go_loopg [9, 10] 0 (fun gk iv jv wr => iv = .int .i64 0 ∧ jv = .int .i64 0 ∧ Below w.heap.size w wr)
  case atStart => exact ⟨rfl, rfl, (Below.refl _ _).alloc (Nat.le_refl _) _⟩
  case round =>
    obtain ⟨rfl, rfl, hbl⟩ := hrel
    go_upto_region 8 with fail
    go_quiet (fail)
    go_wp2_with fail
    go_ret2
    exact ⟨⟨_, rfl⟩, below_drewN hbl _⟩

theorem bsfB_one (h g n m cap cb : Nat) (L : List Sp) (s : Sp) (e c : Nat) (w : World) (hh : w.cell? ⟨h, 0, none⟩ = some (.slice (some ⟨g, 0, none⟩) n cap)) (hsp : SpAt w g L) (hs : L[m]? = some s) (hn : n = m + 1) (hm : m ≤ 18) (r1 : Nat) (hr : (s.under e c → r1 = 1) ∧ (¬ s.under e c → r1 = 0)) :
    Calls Yba.prog 27 #[.slice (some ⟨h, 0, none⟩) 1 cb, pos e c, .func (.func 28) #[] #[]] w fun r w' => (∃ v : Value, r = .returned (.tuple #[.int .i64 (r1 : Int), v])) ∧ Below w.heap.size w w' := by
  unfold pos
  have HSP := hide hsp
  have HS := hide hs
  have HR := hide hr
  have HN := hide hn
  clear hsp hs hr hn
  go_enter Yba.func27, Yba.ntmps27
  go_wp2_with fail
  go_loopg [9, 10] 1 (fun gk iv jv wr => ((gk = 1 ∧ iv = .int .i64 0 ∧ jv = .int .i64 1) ∨ (iv = .int .i64 (r1 : Int) ∧ jv = .int .i64 (r1 : Int))) ∧
    Below w.heap.size w wr ∧ w.heap.size < wr.heap.size ∧ wr.cell? ⟨w.heap.size, 0, none⟩ = some (.int .u64 (e : Int)) ∧ wr.cell? ⟨w.heap.size, 1, none⟩ = some (.int .u64 (c : Int)))
  case atStart => exact ⟨.inl ⟨rfl, rfl, rfl⟩, (Below.refl _ _).alloc (Nat.le_refl _) _, by simp, by simp, by simp⟩
  case round =>
    obtain ⟨hcase, hbl, hsz, hc0, hc1⟩ := hrel
    have hc2 := bsome hbl (Nat.le_refl _) hh
    clear hh
    rcases hcase with ⟨rfl, rfl, rfl⟩ | ⟨rfl, rfl⟩
    · by_cases hu : cmpP s.e s.hi e c < 0
      · obtain rfl : r1 = 1 := HR.out.1 ((cmpP_under s e c).1 hu)
        go_upto_region 5 with fail
        go_region_held3 (fun w' => Below w.heap.size w w' ∧ w.heap.size < w'.heap.size ∧ w'.cell? ⟨w.heap.size, 0, none⟩ = some (.int .u64 (e : Int)) ∧ w'.cell? ⟨w.heap.size, 1, none⟩ = some (.int .u64 (c : Int)) ∧ w'.cell? ⟨h, 0, none⟩ = some (.slice (some ⟨g, 0, none⟩) n cap))
          (first | (exact ⟨hbl.drew, hsz, hc0, hc1, hc2⟩) | (go_split_ands; refine ⟨kstep ‹_› hb2 (by omega), by have := hb2.size; omega, ?_, ?_, ?_⟩ <;> (refine bsome hb2 (Nat.le_refl _) ?_; assumption)))
          (first
          | (go_at_call 28; refine (find1_any g n m cap L s e c _ (HSP.out.bel (w1 := _) (B := w.heap.size) ?_ (Nat.le_refl _)) HS.out HN.out hm).mono ?_; (first | exact hbl.drew | assumption); rintro r w2 ⟨rfl, hb2⟩))
        clear hbl hsz hc0 hc1 hc2
        rename_i hHeld
        obtain ⟨hbl, hsz, hc0, hc1, hc2⟩ := hHeld
        go_wp2_with fail
        go_roundg 0
        case measure => omega
        case rel => exact ⟨.inr ⟨rfl, rfl⟩, hbl, hsz, hc0, hc1⟩
      · obtain rfl : r1 = 0 := HR.out.2 (fun hx => hu ((cmpP_under s e c).2 hx))
        go_upto_region 5 with fail
        go_region_held3 (fun w' => Below w.heap.size w w' ∧ w.heap.size < w'.heap.size ∧ w'.cell? ⟨w.heap.size, 0, none⟩ = some (.int .u64 (e : Int)) ∧ w'.cell? ⟨w.heap.size, 1, none⟩ = some (.int .u64 (c : Int)) ∧ w'.cell? ⟨h, 0, none⟩ = some (.slice (some ⟨g, 0, none⟩) n cap))
          (first | (exact ⟨hbl.drew, hsz, hc0, hc1, hc2⟩) | (go_split_ands; refine ⟨kstep ‹_› hb2 (by omega), by have := hb2.size; omega, ?_, ?_, ?_⟩ <;> (refine bsome hb2 (Nat.le_refl _) ?_; assumption)))
          (first
          | (go_at_call 28; refine (find1_any g n m cap L s e c _ (HSP.out.bel (w1 := _) (B := w.heap.size) ?_ (Nat.le_refl _)) HS.out HN.out hm).mono ?_; (first | exact hbl.drew | assumption); rintro r w2 ⟨rfl, hb2⟩))
        clear hbl hsz hc0 hc1 hc2
        rename_i hHeld
        obtain ⟨hbl, hsz, hc0, hc1, hc2⟩ := hHeld
        go_wp2_with fail
        go_roundg 0
        case measure => omega
        case rel => exact ⟨.inr ⟨rfl, rfl⟩, hbl, hsz, hc0, hc1⟩
    · by_cases hu : s.under e c
      · obtain rfl : r1 = 1 := HR.out.1 hu
        go_upto_region 8 with fail
        go_quiet (fail)
        go_wp2_with fail
        go_ret2
        exact ⟨⟨_, rfl⟩, below_drewN hbl _⟩
      · obtain rfl : r1 = 0 := HR.out.2 hu
        go_upto_region 8 with fail
        go_region_held3 (fun w' => Below w.heap.size w w' ∧ w.heap.size < w'.heap.size ∧ w'.cell? ⟨w.heap.size, 0, none⟩ = some (.int .u64 (e : Int)) ∧ w'.cell? ⟨w.heap.size, 1, none⟩ = some (.int .u64 (c : Int)) ∧ w'.cell? ⟨h, 0, none⟩ = some (.slice (some ⟨g, 0, none⟩) n cap))
          (first | (exact ⟨hbl.drew, hsz, hc0, hc1, hc2⟩) | (go_split_ands; refine ⟨kstep ‹_› hb2 (by omega), by have := hb2.size; omega, ?_, ?_, ?_⟩ <;> (refine bsome hb2 (Nat.le_refl _) ?_; assumption)))
          (first
          | (go_at_call 28; refine (find1_any g n m cap L s e c _ (HSP.out.bel (w1 := _) (B := w.heap.size) ?_ (Nat.le_refl _)) HS.out HN.out hm).mono ?_; (first | exact hbl.drew | assumption); rintro r w2 ⟨rfl, hb2⟩))
        all_goals
          clear hbl hsz hc0 hc1 hc2
          rename_i hHeld
          obtain ⟨hbl, hsz, hc0, hc1, hc2⟩ := hHeld
          go_wp2_with fail
          go_ret2
          exact ⟨⟨_, rfl⟩, hbl⟩
end Go.Proofs.Ybulkdaie.Scr
