/-
  The walk of the law.
-/
import Derived.Test.YbulkdagaDoorPre
namespace Go.Proofs.YbulkdagaDoor
open Go.RowKit
set_option linter.unusedVariables false
set_option linter.unusedSimpArgs false

/-- Behind the choice of the end's error. -/
def Cut1 (w w1 : World) (n X : Nat) (a0 : Addr) (cu : Bool) (v9 v10 : Value) : Prop :=
  ∃ gd aE, v9 = .slice (some ⟨gd, 0, none⟩) n n ∧ v10 = .iface 50 (.pointer (some aE)) ∧ Below w.heap.size w w1 ∧ w.heap.size ≤ gd ∧ RowAt w1 gd 5 (dCells X n) ∧
    (cu = false → aE = a0) ∧ (cu = true → ∃ eB c t, aE = ⟨eB, 0, none⟩ ∧ w.heap.size ≤ eB ∧ w1.heap[eB]? = some (.cells c t (0, 0)))

theorem Cut1.eql {w w1 : World} {a0 aE : Addr} {cu : Bool} {c0 : Array Value} {t0 : TypeId} (hb0 : w.heap[a0.block]? = some (.cells c0 t0 (0, 0))) (hb : Below w.heap.size w w1)
    (h1 : cu = false → aE = a0) (h2 : cu = true → ∃ eB c t, aE = ⟨eB, 0, none⟩ ∧ w.heap.size ≤ eB ∧ w1.heap[eB]? = some (.cells c t (0, 0))) :
    ∀ wx, Below w1.heap.size w1 wx → (binOp .eql 24 (.iface 50 (.pointer (some aE))) (.iface 50 (.pointer (some a0)))).run Ybad.prog wx = .ok (.bool (!cu)) wx := by
  intro wx hx
  cases cu with
  | false => rw [h1 rfl]; exact eql_same a0 wx
  | true =>
    obtain ⟨eB, c, t, rfl, hle, hc⟩ := h2 rfl
    have l0 := (Array.getElem?_eq_some_iff.1 hb0).1
    have lE := (Array.getElem?_eq_some_iff.1 hc).1
    have l1 := hb.size
    refine eql_other wx ?_ (ca := c) (ta := t) (cb := c0) (tb := t0) ?_ ?_
    · rintro rfl; simp at l0; omega
    · rw [hx.block _ (by exact lE)]; exact hc
    · rw [hx.block _ (by omega), hb.block _ l0]; exact hb0

theorem heap_new (w : World) (c : Array Value) (t : TypeId) : (w.alloc (.cells c t)).heap[w.heap.size]? = some (.cells c t (0, 0)) := by
  unfold World.alloc
  simp

theorem TakePost.fits {w0 w' : World} {zB sB gd n X : Nat} {ca : Option Addr} {cl cc : Nat} {E U : Value} {b : Bool} {Z : List Value} {pos nn : Nat} {e : Ending} (h : TakePost w0 w' zB sB gd n X ca cl cc E U b Z pos nn e) (hf : pos + nn ≤ 8 * n) :
    e = .returned (.tuple #[.int .u32 ((X / 2 ^ pos % 2 ^ nn : Nat) : Int), .nilIface]) ∧ ∃ bits' nb' ended', ZI w0 w' zB sB gd n X ca cl cc E Z (pos + nn) bits' nb' ended' := by
  rcases h with ⟨h, _⟩ | ⟨_, h⟩
  · omega
  · exact h
theorem TakePost.lacks {w0 w' : World} {zB sB gd n X : Nat} {ca : Option Addr} {cl cc : Nat} {E U : Value} {b : Bool} {Z : List Value} {pos nn : Nat} {e : Ending} (h : TakePost w0 w' zB sB gd n X ca cl cc E U b Z pos nn e) (hf : 8 * n < pos + nn) :
    e = .returned (.tuple #[.int .u32 0, if b then U else E]) ∧ ∃ bits' nb' ended', ZI w0 w' zB sB gd n X ca cl cc E Z pos bits' nb' ended' := by
  rcases h with ⟨_, h⟩ | ⟨h, _⟩
  · exact h
  · omega

theorem ZI.start (w0 : World) (gd n X : Nat) (ca : Option Addr) (cl cc : Nat) (E : Value) (Z : List Value) (hd : RowAt w0 gd 5 (dCells X n)) (hcuts : Cuts w0 ca cl) (hn : n ≤ 4096) (hcl : cl ≤ 4096) :
    ZI w0 ((w0.alloc (.cells (srcCells gd n ca cl cc 0 0 E 0).toArray 28)).alloc (.cells (zCells w0.heap.size (.slice none 0 0) 0 0 .nilIface Z).toArray 46)) (w0.heap.size + 1) w0.heap.size gd n X ca cl cc E Z 0 0 0 false := by
  have hl := hd.lt
  refine ⟨0, 0, 0, .slice none 0 0, ?_, ⟨(RowAt.new _ _ _).alloc _, (hd.alloc _).alloc _, ?_, by omega, by omega, by omega, by omega, by omega, hcuts, hn, hcl⟩, ⟨by omega, by omega, by omega, by omega, by omega, by simp [Num.Fit, Nat.mod_one], ⟨none, 0, rfl, by omega, by omega, fun h => by omega⟩⟩, by omega, fun h => by cases h⟩
  · have := RowAt.new (w0.alloc (.cells (srcCells gd n ca cl cc 0 0 E 0).toArray 28)) (zCells w0.heap.size (.slice none 0 0) 0 0 .nilIface Z) 46
    simpa using this
  · exact ((Below.refl _ _).alloc (Nat.le_refl _) _).alloc (by simp) _

set_option maxHeartbeats 4000000 in
set_option maxRecDepth 100000 in
theorem law_any (X : Nat) (da : Option Addr) (dl dc : Nat) (ca : Option Addr) (cl cc : Nat) (na : Option Addr) (nl nc : Nat) (cu : Bool) (a0 a1 : Addr) (c0 : Array Value) (t0 : TypeId) (w : World)
    (hd : dl ≤ 4096) (hc : cl ≤ 4096) (hn : nl ≤ 1024) (hnone : da = none → dl = 0) (hdat : ∀ x, da = some x → ∀ i u, (dCells X dl)[i]? = some u → w.cell? (x.add i) = some u) (hcuts : Cuts w ca cl) (hns : Cuts w na nl)
    (hg0 : w.cell? ⟨0, 0, none⟩ = some (.iface 50 (.pointer (some a0)))) (hg1 : w.cell? ⟨1, 0, none⟩ = some (.iface 50 (.pointer (some a1)))) (hb0 : w.heap[a0.block]? = some (.cells c0 t0 (0, 0))) :
    Calls Ybad.prog 3 #[.slice da dl dc, .slice ca cl cc, .slice na nl nc, .bool cu] w fun e w' => e = .returned (.bool true) ∧ Below w.heap.size w w' := by
  obtain ⟨i0, hi, hz0, hz1, hz2⟩ := info_parts info5
  have HNONE := hide hnone
  have HDAT := hide hdat
  have HCUTS := hide hcuts
  have HNS := hide hns
  have HG0 := hide hg0
  have HG1 := hide hg1
  have HB0 := hide hb0
  clear hnone hdat hcuts hns hg0 hg1 hb0
  go_enter Ybad.func3, Ybad.ntmps3
  go_upto_if 43 with (at_make; refine wpList_make_row _ rfl _ _ 22 rfl 5 i0 (.int .u8 0) Ybad.underlying22 hi hz0 hz1 rfl _ _ _ _ dl dl rfl rfl (by omega) (by omega) (by omega) (by rw [hz2]; omega) (by unfold maxLen; omega) ?_; intro w1 hr1 hg1; obtain ⟨w2, hrun, hr2, hg2⟩ := copy_any w1 w.heap.size dl dc da (dCells X dl) _ hr1 (by simp) (dCells_length X dl) HNONE.out (fun x hx i u hu => hg1.cell (HDAT.out x hx i u hu) (by simp)) (dCells_one X dl); have hb2 : Below w.heap.size w w2 := ((Below.refl _ _).grown hg1 (Nat.le_refl _) (by intro k hk; cases hk)).grown hg2 (by have := hg1.size; omega) (by intro k hk; cases hk; exact Nat.le_refl _); have c0 : w2.cell? ⟨0, 0, none⟩ = some (.iface 50 (.pointer (some a0))) := (hb2.cell (p := ⟨0, 0, none⟩) (World.block_lt_of_cell? _ _ HG0.out)).trans HG0.out)
  clear hrun hr1 hg1 hg2 hi hz0 hz1 hz2
  go_cut [9, 10] (fun v9 v10 wx => Cut1 w wx dl X a0 cu v9 v10)
  case first =>
    cases cu with
    | false =>
      go_wp2_with fail
      go_meet
      case rel => exact ⟨_, _, rfl, rfl, hb2, Nat.le_refl _, hr2, fun _ => rfl, fun h => by cases h⟩
    | true =>
      go_wp2_with (go_at_call 4; refine (errNew_any _ _).mono ?_; rintro e w3 ⟨rfl, rfl⟩)
      go_meet
      case rel => exact ⟨_, _, rfl, rfl, hb2.alloc hb2.size _, Nat.le_refl _, hr2.alloc _, (fun h => by cases h), fun _ => ⟨_, _, _, rfl, hb2.size, heap_new _ _ _⟩⟩
  case rest =>
    obtain ⟨gd, aE, hu9, hu10, hbel, hgd, hrd, hE1, hE2⟩ := hcut
    have HQ := hide (Cut1.eql HB0.out hbel hE1 hE2)
    rw [hu9, hu10]
    clear hu9 hu10 u9 u10 hE1 hE2 c0 hb2 hr2 HNONE HDAT HB0
    have hcuts : Cuts wc ca cl := fun k hk => by
      obtain ⟨cb, co, q, h1, h2, h3⟩ := HCUTS.out k hk
      exact ⟨cb, co, q, h1, (hbel.cell (p := ⟨cb, co + k, none⟩) (World.block_lt_of_cell? _ _ h2)).trans h2, h3⟩
    obtain ⟨ZA, Z, hzr, hzne, hset⟩ := zeroRun46
    have HZI := hide (ZI.start wc gd dl X ca cl cc (.iface 50 (.pointer (some aE))) Z hrd hcuts hd hc)
    unfold zCells srcCells at HZI
    have HSET := hide hset
    clear hset
    go_wp2_with fail
    rw [HSET.out]
    clear hzr hzne HSET ZA
    have hU : wc.cell? ⟨1, 0, none⟩ = some (.iface 50 (.pointer (some a1))) := (hbel.cell (p := ⟨1, 0, none⟩) (World.block_lt_of_cell? _ _ HG1.out)).trans HG1.out
    have h0 : wc.cell? ⟨0, 0, none⟩ = some (.iface 50 (.pointer (some a0))) := (hbel.cell (p := ⟨0, 0, none⟩) (World.block_lt_of_cell? _ _ HG0.out)).trans HG0.out
    have hnsc : Cuts wc na nl := fun k hk => by
      obtain ⟨cb, co, q, h1, h2, h3⟩ := HNS.out k hk
      exact ⟨cb, co, q, h1, (hbel.cell (p := ⟨cb, co + k, none⟩) (World.block_lt_of_cell? _ _ h2)).trans h2, h3⟩
    have HU := hide hU
    have H0 := hide h0
    have HNC := hide hnsc
    have HBEL := hide hbel
    clear hU h0 hnsc hbel HNS HCUTS HG0 HG1 hcuts hrd hgd
    go_loopg [14, 59] nl (fun gk pv iv wr => ∃ (i pos bits nb : Nat) (ended : Bool), i ≤ nl ∧ nl ≤ gk + i ∧ iv = .int .i64 (i : Int) ∧ pv = .int .i64 (pos : Int) ∧ pos ≤ 8 * dl ∧ ZI wc wr (wc.heap.size + 1) wc.heap.size gd dl X ca cl cc (.iface 50 (.pointer (some aE))) Z pos bits nb ended)
    case atStart => exact ⟨0, 0, 0, 0, false, by omega, by omega, rfl, rfl, by omega, HZI.out⟩
    case round =>
      clear HZI
      obtain ⟨i, pos, bits, nb, ended, hi, hgk, rfl, rfl, hpos, hz⟩ := hrel
      by_cases hlt : i < nl
      · obtain ⟨g1, rfl⟩ : ∃ g1, gk = g1 + 1 := ⟨gk - 1, by omega⟩
        obtain ⟨nB, no, q, rfl, hcq, hq0, hq1⟩ := HNC.out i hlt
        have cq : wr.cell? ⟨nB, no + i, none⟩ = some (.int .u8 q) := (hz.below.cell (p := ⟨nB, no + i, none⟩) (World.block_lt_of_cell? _ _ hcq)).trans hcq
        obtain ⟨qn, rfl⟩ : ∃ qn : Nat, q = (qn : Int) := ⟨q.toNat, by omega⟩
        clear hcq
        have hlti : (i : Int) < (nl : Int) := by omega
        obtain ⟨nn, hnq⟩ : ∃ nn : Nat, nn = qn % 33 := ⟨_, rfl⟩
        have hnn : nn ≤ 32 := by omega
        have HTK := hide (take_any wc (wc.heap.size + 1) wc.heap.size gd dl X ca cl cc 50 (.pointer (some aE)) _ _ (!cu) Z pos bits nb nn ended wr hz (by omega) H0.out HU.out HQ.out)
        have HMOD := hide (show (qn : Int) % 33 = (nn : Int) by omega)
        clear hnq
        by_cases hfit : pos + nn ≤ 8 * dl
        · have hfi : (nn : Int) ≤ 8 * (dl : Int) - (pos : Int) := by omega
          obtain ⟨V, hV⟩ : ∃ V : Nat, V = X / 2 ^ pos % 2 ^ nn := ⟨_, rfl⟩
          have hV32 : V < 2 ^ 32 := by rw [hV]; exact Nat.lt_of_lt_of_le (Nat.mod_lt _ (Nat.two_pow_pos _)) (Nat.pow_le_pow_right (by omega) hnn)
          have HV := hide hV
          have HV32 := hide hV32
          clear hV hV32
          go_wp2_with (go_at_call 5; rw [HMOD.out]; refine HTK.out.mono ?_; rintro e w2 hpost; obtain ⟨he, b2, n2, e2, hz2⟩ := hpost.fits hfit; rw [← HV.out] at he; subst he)
          have HZ2 := hide hz2
          clear hz2 hpost HTK hz cq
          go_loopg [20, 21] nn (fun gk wv jv wr => ∃ j : Nat, j ≤ nn ∧ nn ≤ gk + j ∧ jv = .int .i64 (j : Int) ∧ wv = .int .u32 ((X / 2 ^ pos % 2 ^ j : Nat) : Int) ∧ ZI wc wr (wc.heap.size + 1) wc.heap.size gd dl X ca cl cc (.iface 50 (.pointer (some aE))) Z (pos + nn) b2 n2 e2)
          case atStart => exact ⟨0, by omega, by omega, rfl, by simp [Nat.mod_one], HZ2.out⟩
          case round =>
            clear HZ2
            obtain ⟨j, hj, hgj, rfl, rfl, hz⟩ := hrel
            by_cases hjn : j < nn
            · obtain ⟨k2, pt2, p2, inn2, hrow2, henv2, _⟩ := id hz
              have cd : wr.cell? ⟨gd, (pos + j) / 8, none⟩ = some (.int .u8 ((X / 2 ^ (8 * ((pos + j) / 8)) % 256 : Nat) : Int)) := by rw [henv2.d.cell, dCells_get X dl _ (by omega)]
              have hb8 : X / 2 ^ (8 * ((pos + j) / 8)) % 256 < 256 := Nat.mod_lt _ (by omega)
              have HBB := hide (Num.bit_of_byte X (pos + j))
              clear hrow2 henv2
              generalize X / 2 ^ (8 * ((pos + j) / 8)) % 256 = by8 at *
              have hji : (j : Int) < (nn : Int) := by omega
              have hii : ((pos : Int) + (j : Int)) / 8 < (dl : Int) := by omega
              have hWl : X / 2 ^ pos % 2 ^ j < 2 ^ j := Nat.mod_lt _ (Nat.two_pow_pos _)
              obtain ⟨W, hW⟩ : ∃ W : Nat, W = X / 2 ^ pos % 2 ^ j := ⟨_, rfl⟩
              rw [← hW] at hWl ⊢
              have HW := hide hW
              have HWL := hide hWl
              clear hW hWl
              go_wp2_with fail
              rw [or_bit X pos j by8 W (by omega) hb8 HBB.out HW.out HWL.out]
              go_roundg (gk - 1)
              case measure => omega
              case rel => exact ⟨j + 1, by omega, by omega, by go_num, rfl, hz⟩
            · obtain rfl : j = nn := by omega
              have hjj : ¬ (j : Int) < (j : Int) := by omega
              have hVV := HV.out
              rw [← hVV]
              clear hVV
              have hneV : ((V : Int) != (V : Int)) = false := by simp
              go_wp2_with fail
              go_roundg g1
              case measure => omega
              case rel => exact ⟨i + 1, pos + j, b2, n2, e2, by omega, by omega, by go_num, by go_num, by omega, hz⟩
        · have hfi : 8 * (dl : Int) - (pos : Int) < (nn : Int) := by omega
          have hns := fun (wx : World) => neq_same aE wx
          have hnu := fun (wx : World) => neq_same a1 wx
          have hgl : ∀ wx : World, Below wc.heap.size wc wx → wx.cell? ⟨1, 0, none⟩ = some (.iface 50 (.pointer (some a1))) := fun _ hb => (hb.cell (p := ⟨1, 0, none⟩) (World.block_lt_of_cell? _ _ HU.out)).trans HU.out
          have HGL := hide hgl
          clear hgl
          cases cu with
          | true =>
            go_wp2_with (go_at_call 5; rw [HMOD.out]; refine HTK.out.mono ?_; rintro e w2 hpost; obtain ⟨he, b2, n2, e2, hz2⟩ := hpost.lacks (by omega); simp at he; subst he)
            go_roundg g1
            case measure => omega
            case rel => exact ⟨i + 1, pos, b2, n2, e2, by omega, by omega, by go_num, rfl, hpos, hz2⟩
          | false =>
            go_wp2_with (go_at_call 5; rw [HMOD.out]; refine HTK.out.mono ?_; rintro e w2 hpost; obtain ⟨he, b2, n2, e2, hz2⟩ := hpost.lacks (by omega); simp at he; subst he; have c1 := HGL.out _ hz2.below)
            go_roundg g1
            case measure => omega
            case rel => exact ⟨i + 1, pos, b2, n2, e2, by omega, by omega, by go_num, rfl, hpos, hz2⟩
      · have hlti : ¬ (i : Int) < (nl : Int) := by omega
        obtain ⟨k2, pt2, p2, inn2, hrow2, henv2, _⟩ := id hz
        have cs := henv2.s.cell 5
        unfold srcCells at cs
        simp at cs
        have hee : (if ended = true then (1 : Int) else 0) ≤ 1 := by split <;> omega
        obtain ⟨ee, hE⟩ : ∃ ee : Int, ee = (if ended = true then (1 : Int) else 0) := ⟨_, rfl⟩
        rw [← hE] at cs hee
        have hde : decide (ee ≤ 1) = true := decide_eq_true hee
        clear hrow2 henv2 hE
        go_wp2_with fail
        go_ret
        exact ⟨by simp [hde], HBEL.out.trans (hz.below.mono HBEL.out.size)⟩
end Go.Proofs.YbulkdagaDoor
