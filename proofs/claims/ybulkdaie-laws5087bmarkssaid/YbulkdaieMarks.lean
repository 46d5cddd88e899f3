/-
  The walk of LawS5087BMarks.
-/
import Derived.Test.YbulkdaieMarksA
namespace Go.Proofs.Ybulkdaie
open Go.RowKit
set_option linter.unusedVariables false
set_option linter.unusedSimpArgs false

set_option maxHeartbeats 400000 in
theorem marks_big (ep lo f : Int) (a : Option Addr) (len cap : Nat) (w : World) (h : 512 < len) (hm : len ≤ maxLen) :
    Calls Yba.prog 4 #[.int .u64 ep, .int .u64 lo, .int .i64 f, .slice a len cap] w fun e w' => e = .returned (.bool true) ∧ Below w.heap.size w w' := by
  unfold maxLen at hm
  go_enter Yba.func4, Yba.ntmps4
  go_wp2
  go_ret
  exact ⟨rfl, Below.refl _ _⟩

set_option maxHeartbeats 1000000 in
set_option maxRecDepth 100000 in
theorem marks_small (ep lo0 f : Int) (a : Option Addr) (len cap : Nat) (D : Nat → Int) (R : Nat → Bool) (w : World) (h : len ≤ 512) (hl0 : 0 ≤ lo0) (hl1 : lo0 < 18446744073709551616)
    (hf1 : -9223372036854775808 ≤ f) (hf2 : f ≤ 9223372036854775807) (hD : ∀ i, 0 ≤ D i ∧ D i ≤ 255)
    (hA : 0 < len → ∃ b off, a = some ⟨b, off, none⟩ ∧ ∀ i, i < len → w.cell? ⟨b, off + i * 2, none⟩ = some (.int .u8 (D i)) ∧ w.cell? ⟨b, off + i * 2 + 1, none⟩ = some (.bool (R i))) :
    Calls Yba.prog 4 #[.int .u64 ep, .int .u64 lo0, .int .i64 f, .slice a len cap] w fun e w' => e = .returned (.bool true) ∧ Below w.heap.size w w' := by
  obtain ⟨i0, hi0, hz0, hz1, hz2⟩ := info_parts Yba.info3
  have HA := hide hA
  have HDD := hide hD
  clear hA hD
  go_enter Yba.func4, Yba.ntmps4
  go_upto_if 23 with fail
  go_cut [1] (fun v w1 => ∃ lo : Nat, v = .int .u64 (lo : Int) ∧ (lo : Int) + 3010 < 18446744073709551615 ∧ w1 = w)
  case first =>
    by_cases hlo : 18446744073709547519 < lo0
    · go_wp2_with fail
      go_meet
      case rel => exact ⟨(lo0 - 4096).toNat, by rw [Int.toNat_of_nonneg (by omega)], by omega, rfl⟩
    · go_wp2_with fail
      go_meet
      case rel => exact ⟨lo0.toNat, by rw [Int.toNat_of_nonneg (by omega)], by omega, rfl⟩
  case rest =>
    obtain ⟨lo, hlo, hlob, hwc⟩ := hcut
    subst hwc
    rw [hlo]
    clear hlo hl0 hl1
    go_wp2_with (first | (at_make; refine wpList_make_own _ rfl _ _ 71 rfl (wc.heap.size + 1) 3 i0 (.int .i64 0) 1 Yba.underlying71 hi0 hz0 hz1 _ _ _ (1 + 4 * len) rfl rfl (by omega) (by rw [hz2]; omega) (by unfold maxLen; omega) (by simp) ?_; intro w1 hown1 hg1; simp only [World.size_alloc] at hown1; have hsz1 := (hown1.lt _ rfl).2) | (at_builtin; refine wpList_append_fits _ rfl (.tmp 39) (.tmp 41) 71 rfl (wc.heap.size + 1) 3 i0 1 Yba.underlying71 hi0 hz1 (wc.heap.size + 1) 0 (1 + 4 * len) [] rfl (hown1.alloc _) ⟨w1.heap.size, 0, none⟩ 1 1 [.int .i64 f] rfl rfl (cell_one_new _ _ _) (ints_oneCell .i64 [f]) (by omega) ?_; intro w2 hown2 hg2; have hlm := LM.start hf1 hf2 hg1 hsz1 hown2 hg2; clear hown1 hown2 hg1 hg2 hsz1))
    go_loopg [10, 11, 46] len (fun gk mo cu iv wr => ∃ (i : Nat) (bs : List Bool), i ≤ len ∧ len ≤ gk + i ∧ iv = .int .i64 (i : Int) ∧ bs.length ≤ 1 + 4 * i ∧ 0 < bs.length ∧ mo = .slice (some ⟨wc.heap.size + 1, 0, none⟩) bs.length (1 + 4 * len) ∧ cu = .int .i64 (wrap64 (f + (bs.count true : Int))) ∧ LM wc wr wc.heap.size (wc.heap.size + 1) lo ep f bs (mcells f bs) (1 + 4 * len))
    case atStart =>
      refine ⟨0, [false], by omega, by omega, rfl, by simp, by simp, rfl, ?_, ?_⟩
      · have := IntWalk.wrap64_in f ⟨hf1, hf2⟩
        simp [this]
      · have e : mcells f [false] = [.int .i64 f] := by simp [mcells, IntWalk.wrap64_in f ⟨hf1, hf2⟩]
        rw [e]; exact hlm
    case round =>
      clear hlm
      obtain ⟨i, bs, hi, hgk, rfl, hbl, hb0, rfl, rfl, hm⟩ := hrel
      by_cases hlt : i < len
      · obtain ⟨g1, rfl⟩ : ∃ g1, gk = g1 + 1 := ⟨gk - 1, by omega⟩
        obtain ⟨b, off, rfl, hcell⟩ := HA.out (by omega)
        obtain ⟨c0, c1⟩ := hcell i hlt
        clear hcell
        obtain ⟨hD0, hD1⟩ := HDD.out i
        have hb := World.block_lt_of_cell? _ _ c0
        simp only at hb
        have d0 : wr.cell? ⟨b, off + i * 2, none⟩ = some (.int .u8 (D i)) := (hm.below.cell (p := ⟨b, off + i * 2, none⟩) hb).trans c0
        have d1 : wr.cell? ⟨b, off + i * 2 + 1, none⟩ = some (.bool (R i)) := (hm.below.cell (p := ⟨b, off + i * 2 + 1, none⟩) hb).trans c1
        clear c0 c1 hb
        generalize D i = Di at *
        generalize R i = Ri at *
        have hm2 := hm.alloc (.cells #[.int .u8 Di, .bool Ri] 73)
        have hrc : ∃ v, RowAt (wr.alloc (.cells #[.int .u8 Di, .bool Ri] 73)) wc.heap.size 70 (runCells ep lo (lo + bs.length - 1) f (wrap64 (f + (bs.count true : Int))) v) := by
          obtain ⟨v, hv, _⟩ := hm2.st
          exact ⟨v, hv⟩
        obtain ⟨v, hv⟩ := hrc
        have ch : (wr.alloc (.cells #[.int .u8 Di, .bool Ri] 73)).cell? ⟨wc.heap.size, 2, none⟩ = some (.int .u64 ((lo + bs.length - 1 : Nat) : Int)) := hv.cell 2
        clear hv
        obtain ⟨d, hd⟩ : ∃ d : Nat, (d : Int) = 1 + Di % 4 := ⟨(1 + Di % 4).toNat, by omega⟩
        have hd1 : 1 ≤ d := by omega
        have hd4 : d ≤ 4 := by omega
        have HD := hide hd
        clear hd
        have hcl : bs.count true ≤ 3000 := by have := List.count_le_length (a := true) (l := bs); omega
        have hext := extend_any wc.heap.size (wc.heap.size + 1) lo d ep f bs _ hm2.st (by omega) hm2.GW hb0 hm2.head (by omega) hd1 hd4 hlob hf1 hf2
        have hi'b : ((lo + bs.length - 1 : Nat) : Int) + 4 < 18446744073709551615 := by omega
        generalize lo + bs.length - 1 = hi' at *
        cases Ri
        · have hext := hext false
          simp only [Bool.false_eq_true, if_false, if_true] at hext
          have HE := hide hext
          clear hext
          have HMk : Hid (wrap64 (f + (bs.count true : Int)) = wrap64 (f + ((bs ++ false :: List.replicate (d - 1) false).count true : Int))) := by
            show _ = _
            rw [count_step]
            simp
          have HX := hide (mcells_step f bs false d hd1)
          have HL : Hid ((bs ++ false :: List.replicate (d - 1) false).length = bs.length + d) := (show _ = _ by simp; omega)
          have HT : Hid ((bs ++ false :: List.replicate (d - 1) false).take 1 = [false]) := (show _ = _ by rw [List.take_append_of_le_length (by omega)]; exact hm.head)
          generalize hbs' : bs ++ false :: List.replicate (d - 1) false = bs' at *
          have HB := hide hbs'
          clear hbs'
          generalize wrap64 (f + (bs.count true : Int)) = m at *
          go_wp2_with fail
          rw [← HD.out]
          refine HE.out.mono ?_
          rintro e w3 ⟨rfl, hs3, hf3⟩
          have hm3 := hm2.frm hs3 hf3 HT.out
          clear HE hs3 hf3 hm2 d0 d1 ch hm
          go_wp2_with fail
          go_loopg [10, 16] d (fun gk mo jv wr => ∃ j : Nat, j ≤ d ∧ d ≤ gk + j ∧ jv = .int .i64 (j : Int) ∧ mo = .slice (some ⟨wc.heap.size + 1, 0, none⟩) (bs.length + j) (1 + 4 * len) ∧ LM wc wr wc.heap.size (wc.heap.size + 1) lo ep f bs' (mcells f bs ++ List.replicate j (.int .i64 m)) (1 + 4 * len))
          case atStart => exact ⟨0, by omega, by omega, rfl, rfl, by simpa using hm3⟩
          case round =>
            clear hm3
            obtain ⟨j, hj, hgj, rfl, rfl, hm4⟩ := hrel
            by_cases hjd : j < d
            · have hxl : (mcells f bs ++ List.replicate j (Value.int .i64 m)).length = bs.length + j := by simp [mcells_length]
              have hown4 := hm4.own
              rw [hxl] at hown4
              go_wp2_with (at_builtin; refine wpList_append_fits _ rfl (.tmp 77) (.tmp 79) 71 rfl (wc.heap.size + 1) 3 i0 1 Yba.underlying71 hi0 hz1 (wc.heap.size + 1) (bs.length + j) (1 + 4 * len) _ rfl (hown4.alloc _) ⟨wr.heap.size, 0, none⟩ 1 1 [.int .i64 m] rfl rfl (cell_one_new _ _ _) (ints_oneCell .i64 [m]) (by omega) ?_; intro w5 hown5 hg5; have hm5 := (hm4.alloc _).app hg5 (by rw [hxl]; exact hown5); clear hown4 hown5 hg5 hm4 hxl)
              go_roundg (gk - 1)
              case measure => omega
              case rel => exact ⟨j + 1, by omega, by omega, by go_num, by go_num, by rw [List.replicate_succ', ← List.append_assoc]; exact hm5⟩
            · obtain rfl : j = d := by omega
              go_wp2_with fail
              go_roundg g1
              case measure => omega
              case rel => exact ⟨i + 1, bs', by omega, by omega, by go_num, by have := HL.out; omega, by have := HL.out; omega, by rw [HL.out], by rw [HMk.out], by rw [HX.out, ← HMk.out]; exact hm4⟩
        · have hext := hext true
          simp only [Bool.false_eq_true, if_false, if_true] at hext
          have HE := hide hext
          clear hext
          have HMk : Hid (wrap64 (wrap64 (f + (bs.count true : Int)) + 1) = wrap64 (f + ((bs ++ true :: List.replicate (d - 1) false).count true : Int))) := by
            show _ = _
            rw [count_step]
            simp only [Bool.toNat_true]; exact wrap_succ _ _
          have HX := hide (mcells_step f bs true d hd1)
          have HL : Hid ((bs ++ true :: List.replicate (d - 1) false).length = bs.length + d) := (show _ = _ by simp; omega)
          have HT : Hid ((bs ++ true :: List.replicate (d - 1) false).take 1 = [false]) := (show _ = _ by rw [List.take_append_of_le_length (by omega)]; exact hm.head)
          generalize hbs' : bs ++ true :: List.replicate (d - 1) false = bs' at *
          have HB := hide hbs'
          clear hbs'
          go_wp2_with fail
          generalize wrap64 (wrap64 (f + (bs.count true : Int)) + 1) = m at *
          rw [← HD.out]
          refine HE.out.mono ?_
          rintro e w3 ⟨rfl, hs3, hf3⟩
          have hm3 := hm2.frm hs3 hf3 HT.out
          clear HE hs3 hf3 hm2 d0 d1 ch hm
          go_wp2_with fail
          go_loopg [10, 16] d (fun gk mo jv wr => ∃ j : Nat, j ≤ d ∧ d ≤ gk + j ∧ jv = .int .i64 (j : Int) ∧ mo = .slice (some ⟨wc.heap.size + 1, 0, none⟩) (bs.length + j) (1 + 4 * len) ∧ LM wc wr wc.heap.size (wc.heap.size + 1) lo ep f bs' (mcells f bs ++ List.replicate j (.int .i64 m)) (1 + 4 * len))
          case atStart => exact ⟨0, by omega, by omega, rfl, rfl, by simpa using hm3⟩
          case round =>
            clear hm3
            obtain ⟨j, hj, hgj, rfl, rfl, hm4⟩ := hrel
            by_cases hjd : j < d
            · have hxl : (mcells f bs ++ List.replicate j (Value.int .i64 m)).length = bs.length + j := by simp [mcells_length]
              have hown4 := hm4.own
              rw [hxl] at hown4
              go_wp2_with (at_builtin; refine wpList_append_fits _ rfl (.tmp 77) (.tmp 79) 71 rfl (wc.heap.size + 1) 3 i0 1 Yba.underlying71 hi0 hz1 (wc.heap.size + 1) (bs.length + j) (1 + 4 * len) _ rfl (hown4.alloc _) ⟨wr.heap.size, 0, none⟩ 1 1 [.int .i64 m] rfl rfl (cell_one_new _ _ _) (ints_oneCell .i64 [m]) (by omega) ?_; intro w5 hown5 hg5; have hm5 := (hm4.alloc _).app hg5 (by rw [hxl]; exact hown5); clear hown4 hown5 hg5 hm4 hxl)
              go_roundg (gk - 1)
              case measure => omega
              case rel => exact ⟨j + 1, by omega, by omega, by go_num, by go_num, by rw [List.replicate_succ', ← List.append_assoc]; exact hm5⟩
            · obtain rfl : j = d := by omega
              go_wp2_with fail
              go_roundg g1
              case measure => omega
              case rel => exact ⟨i + 1, bs', by omega, by omega, by go_num, by have := HL.out; omega, by have := HL.out; omega, by rw [HL.out], by rw [HMk.out], by rw [HX.out, ← HMk.out]; exact hm4⟩
      · obtain rfl : i = len := by omega
        clear hgk hi
        have hrc : ∃ v, RowAt wr wc.heap.size 70 (runCells ep lo (lo + bs.length - 1) f (wrap64 (f + (bs.count true : Int))) v) := by
          obtain ⟨v, hv, _⟩ := hm.st
          exact ⟨v, hv⟩
        obtain ⟨v, hv⟩ := hrc
        have c1 : wr.cell? ⟨wc.heap.size, 1, none⟩ = some (.int .u64 (lo : Int)) := hv.cell 1
        have c2 : wr.cell? ⟨wc.heap.size, 2, none⟩ = some (.int .u64 ((lo + bs.length - 1 : Nat) : Int)) := hv.cell 2
        clear hv
        have hlh : (lo : Int) ≤ ((lo + bs.length - 1 : Nat) : Int) := by omega
        have hlh2 : ((lo + bs.length - 1 : Nat) : Int) < 18446744073709551615 := by omega
        have hne : (((lo + bs.length - 1 : Nat) : Int) - (lo : Int) != (bs.length : Int) - 1) = false := by
          rw [show ((lo + bs.length - 1 : Nat) : Int) - (lo : Int) = (bs.length : Int) - 1 by omega]; simp
        generalize lo + bs.length - 1 = hi' at *
        go_wp2_with fail
        go_quiet (fail)
        have hm2 := hm.drewN nq
        clear hm c1 c2
        generalize wr.drewN nq = wq at hm2 ⊢
        go_wp2_with fail
        go_loopg [110] bs.length (fun gk iv wr => ∃ k : Nat, k ≤ bs.length ∧ bs.length ≤ gk + k ∧ iv = .int .i64 (k : Int) ∧ LM wc wr wc.heap.size (wc.heap.size + 1) lo ep f bs (mcells f bs) (1 + 4 * i))
        case atStart => exact ⟨0, by omega, by omega, rfl, hm2⟩
        case round =>
          clear hm2
          obtain ⟨k, hk, hgk, rfl, hm⟩ := hrel
          by_cases hlt2 : k < bs.length
          · have ck : wr.cell? ⟨wc.heap.size + 1, k, none⟩ = some (.int .i64 (wrap64 (f + ((bs.take (k + 1)).count true : Int)))) := by
              have ho := hm.own
              rw [mcells_length] at ho
              rw [ho.cellAt k (by omega), mcells_get f bs k hlt2]
            have HE := hide (markOf_any wc.heap.size (wc.heap.size + 1) lo k ep f bs wr hm.st hlt2 (by omega) hlob hf1 hf2)
            have hkl : (lo : Int) + (k : Int) < 18446744073709551615 := by omega
            generalize wrap64 (f + ((bs.take (k + 1)).count true : Int)) = mk at *
            go_wp2_with fail
            refine HE.out.mono ?_
            rintro e w4 ⟨rfl, n4, hw4⟩
            have hm4 := hm.drewN n4
            rw [← hw4] at hm4
            clear hw4 HE hm ck
            go_wp2_with fail
            go_roundg (gk - 1)
            case measure => omega
            case rel => exact ⟨k + 1, by omega, by omega, by go_num, hm4⟩
          · obtain rfl : k = bs.length := by omega
            have hrc : ∃ v, RowAt wr wc.heap.size 70 (runCells ep lo (lo + bs.length - 1) f (wrap64 (f + (bs.count true : Int))) v) := by
              obtain ⟨v, hv, _⟩ := hm.st
              exact ⟨v, hv⟩
            obtain ⟨v, hv⟩ := hrc
            have c3 : wr.cell? ⟨wc.heap.size, 3, none⟩ = some (.int .i64 f) := hv.cell 3
            have c4 : wr.cell? ⟨wc.heap.size, 4, none⟩ = some (.int .i64 (wrap64 (f + (bs.count true : Int)))) := hv.cell 4
            clear hv
            go_wp2_with fail
            go_ret
            exact ⟨rfl, hm.below⟩

end Go.Proofs.Ybulkdaie
