/-
  The walk of the law.
-/
import Derived.Test.YbulkdafmMem
namespace Go.Proofs.Ybulkdafm
open Go.RowKit Go.Maps
set_option linter.unusedVariables false
set_option linter.unusedSimpArgs false

theorem info24 : (Yba.prog.info? 24).map (fun i => (i.zero, i.size, i.bytes)) = some (some (.map none), 1, 8) := by kernel_rfl
theorem info3 : (Yba.prog.info? 3).map (fun i => (i.zero, i.size, i.bytes)) = some (some (.int .i64 0), 1, 8) := by kernel_rfl

/-- The steps as they came in. -/
def Steps (w : World) (sa : Option Addr) (sl : Nat) (par : Nat → Nat) (key : Nat → ByteArray) (leaf : Nat → Bool) : Prop :=
  ∀ i, i < sl → ∃ sb so, sa = some ⟨sb, so, none⟩ ∧ w.cell? ⟨sb, so + i * 3, none⟩ = some (.int .u8 (par i : Nat)) ∧ w.cell? ⟨sb, so + i * 3 + 1, none⟩ = some (.string (key i)) ∧ w.cell? ⟨sb, so + i * 3 + 2, none⟩ = some (.bool (leaf i)) ∧ par i ≤ 255 ∧ (key i).size ≤ 140737488351232
theorem Steps.below {w w' : World} {sa : Option Addr} {sl : Nat} {par : Nat → Nat} {key : Nat → ByteArray} {leaf : Nat → Bool} (h : Steps w sa sl par key leaf) (hb : Below w.heap.size w w') : Steps w' sa sl par key leaf := by
  intro i hi
  obtain ⟨sb, so, h1, h2, h3, h4, h5⟩ := h i hi
  have hl := World.block_lt_of_cell? _ _ h2
  exact ⟨sb, so, h1, (hb.cell (p := ⟨sb, so + i * 3, none⟩) hl).trans h2, (hb.cell (p := ⟨sb, so + i * 3 + 1, none⟩) hl).trans h3, (hb.cell (p := ⟨sb, so + i * 3 + 2, none⟩) hl).trans h4, h5⟩

theorem upd_comm (Dm : Nat → DataW Unit) {b c : Nat} (D E : DataW Unit) (h : b ≠ c) : upd (upd Dm b D) c E = upd (upd Dm c E) b D := by
  funext x
  unfold upd
  by_cases h1 : x = b
  · subst h1; simp [h]
  · by_cases h2 : x = c
    · subst h2; simp [h1]
    · simp [h1, h2]

theorem one_row (w : World) (x : Value) (e : TypeId) (base : Nat) (hb : base ≤ w.heap.size) : (w.alloc (.cells #[x] e)).ownsRow base e 1 (.slice (some ⟨w.heap.size, 0, none⟩) 1 1) 1 [x] :=
  ⟨rfl, .inr ⟨w.heap.size, 1, #[x], rfl, hb, by unfold World.alloc; simp, Nat.le_refl _, by unfold maxLen; omega, rfl, rfl⟩⟩

theorem Mem.start (w : World) : Mem w (((w.alloc (.map #[] 0)).alloc (.cells #[.map (some w.heap.size)] 24)).alloc (.cells #[.int .i64 0] 3)) (w.heap.size + 1) 1 (w.heap.size + 1 + 1) 1 [w.heap.size] [0] (fun _ => .map []) 0 := by
  refine ⟨((((Below.refl _ _).alloc (Nat.le_refl _) _)).alloc (by simp) _).alloc (by simp; omega) _, ?_, ?_, fun b hb => ?_, fun b hb => ?_⟩
  · have := (one_row (w.alloc (.map #[] 0)) (.map (some w.heap.size)) 24 w.heap.size (by simp)).alloc (.cells #[.int .i64 0] 3)
    simpa [mCells] using this
  · have := one_row ((w.alloc (.map #[] 0)).alloc (.cells #[.map (some w.heap.size)] 24)) (.int .i64 0) 3 w.heap.size (by simp; omega)
    simpa [zCells] using this
  · simp at hb; subst hb
    exact ((World.ownsMap_made w Yba.prog 9 subElem).alloc _).alloc _
  · simp at hb; omega

set_option maxHeartbeats 4000000 in
set_option maxRecDepth 100000 in
theorem law_any (par : Nat → Nat) (key : Nat → ByteArray) (leaf : Nat → Bool) (sa : Option Addr) (sl sc : Nat) (w : World) (hsl : sl ≤ 1024) (hst : Steps w sa sl par key leaf) :
    Calls Yba.prog 3 #[.slice sa sl sc] w fun e w' => e = .returned (.bool true) ∧ Below w.heap.size w w' := by
  obtain ⟨im, hm, hm0, hm1, hm2⟩ := info_parts info24
  obtain ⟨iz, hz, hz0, hz1, hz2⟩ := info_parts info3
  have HST := hide hst
  clear hst
  have hmm := @run_makeMap Yba.prog
  have hnn := neq_nil
  go_enter Yba.func3, Yba.ntmps3
  go_wp2_with (go_at_call 4; refine (clone_nil _).mono ?_; rintro e w2 ⟨rfl, hw2⟩; rw [hw2]; clear hw2 w2)
  have HM0 := hide (Mem.start w)
  generalize hWW : ((w.alloc (Obj.map #[] 0)).alloc (Obj.cells #[Value.map (some w.heap.size)] 24)).alloc (Obj.cells #[Value.int IntKind.i64 0] 3) = WW at *
  clear hWW
  go_loopg [4, 5, 32] sl (fun gk nv sv iv wr => ∃ (i gN cN gS cS : Nat) (bs zs : List Nat) (Dm : Nat → DataW Unit), i ≤ sl ∧ sl ≤ gk + i ∧ iv = .int .i64 (i : Int) ∧ nv = .slice (some ⟨gN, 0, none⟩) (cnt leaf i) cN ∧ sv = .slice (some ⟨gS, 0, none⟩) (cnt leaf i) cS ∧ TP par key leaf i bs Dm zs ∧ bs[0]? = some w.heap.size ∧ Mem w wr gN cN gS cS bs zs Dm i)
  case atStart => exact ⟨0, _, _, _, _, _, _, _, by omega, by omega, rfl, rfl, rfl, TP.start par key leaf w.heap.size, rfl, HM0.out⟩
  case round =>
    clear HM0
    obtain ⟨i, gN, cN, gS, cS, bs, zs, Dm, hi, hgk, rfl, rfl, rfl, htp, hroot, hmem⟩ := hrel
    have hcl := cnt_le leaf i
    have hcp := cnt_pos leaf i
    by_cases hlt : i < sl
    · obtain ⟨sb, so, hsa, s0, s1, s2, hp255, hks⟩ := HST.out.below hmem.below i hlt
      subst hsa
      have hpl := Nat.mod_lt (par i) hcp
      obtain ⟨b, hb⟩ : ∃ b, bs[par i % cnt leaf i]? = some b := ⟨_, List.getElem?_eq_getElem (by rw [htp.len]; exact hpl)⟩
      have hbm : b ∈ bs := List.mem_of_getElem? hb
      have hzp := htp.sizes _ _ hb
      have hsm := htp.small b hbm
      have hlti : (i : Int) < (sl : Int) := by omega
      have HTP := hide htp
      have HMEM := hide hmem
      have HB := hide hb
      have HR := hide hroot
      have hbl := htp.len
      have hzl := htp.zlen
      have HBL := hide hbl
      have HZL := hide hzl
      clear htp hmem hb hroot hbl hzl
      have HZP := hide hzp
      clear hzp
      generalize hN : cnt leaf i = N at *
      have HN := hide hN
      clear hN
      generalize hP : par i % N = p at *
      have HMOD := hide (show ((par i : Nat) : Int) % (N : Int) = (p : Int) by rw [← hP]; simp)
      have HP := hide hP
      clear hP
      generalize hq : par i = q at *
      have HQ := hide hq
      clear hq
      generalize hk : key i = kk at *
      have HK := hide hk
      clear hk
      generalize hL : leaf i = lf at *
      have HL := hide hL
      clear hL
      have hN0 : ¬ (N : Int) = 0 := by omega
      have hN0b : ((N : Int) == 0) = false := by simp; omega
      obtain ⟨z, hzz⟩ : ∃ z, z = Maps.size (Dm b) := ⟨_, rfl⟩
      have HZZ := hide hzz
      rw [← hzz] at hsm
      clear hzz
      have hgne := HMEM.out.gne
      have hgl := HMEM.out.lt
      have hwS : ¬ wr.heap.size = gS := by omega
      go_upto_if 54 with (go_at_call 5; rw [HMOD.out]; refine (name_any kk i _ hks (by omega)).mono ?_; rintro e w2 ⟨rfl, hbel2⟩; have hstc := fun o => hbel2.cell (p := ⟨wr.heap.size, o, none⟩) (by simp); simp at hstc; have hm2' := (HMEM.out.alloc _).quiet (Below.grownNone hbel2); have czs : w2.cell? ⟨gS, p, none⟩ = some (.int .i64 (z : Int)) := row_cell hm2'.sizes (by simp [zCells, HZP.out, HZZ.out]); have fzs : w2.frozen? ⟨gS, p, none⟩ = false := row_frozen hm2'.sizes p)
      have hm3 := hm2'.store p (z + 1)
      rw [show (((z + 1 : Nat) : Int)) = (z : Int) + 1 by omega] at hm3
      generalize hW3 : w2.setCell ⟨gS, p, none⟩ (.int .i64 ((z : Int) + 1)) = w3 at *
      clear hW3 czs fzs hm2' hstc hbel2 HMEM s0 s1 s2 HZP hgl hwS hgne
      clear w2
      have cn : w3.cell? ⟨gN, p, none⟩ = some (.map (some b)) := row_cell hm3.nodes (by simp [mCells, HB.out])
      have hob : Own w3 b i (Dm b) := hm3.maps b hbm
      have hkey : keyOf Yba.prog 9 (.string (nameOf kk i)) = some (nm key i) := by
        have h1 := decs_length i
        have h2 := nameOf_size kk i
        have := WideMaps.keyOf_string_mk Yba.underlying9 (s := nameOf kk i) (by unfold maxLen; omega)
        rw [this, nm, HK.out]
      have HM3 := hide hm3
      have HKEY := hide hkey
      clear hm3 hkey
      cases lf with
      | true =>
        go_wp2_with (at_mapUpdate; refine wpList_mapUpdate_own _ rfl _ _ _ 24 rfl 9 24 law Yba.underlying24 subElem b i (Dm b) rfl hob (by unfold maxLen; omega) _ _ _ rfl rfl HKEY.out (sub none) [] rfl ?_; intro w4 hown4 hg4; go_frame)
        have hm4 := HM3.out.put hbm hg4 hown4
        have htp := HTP.out.leafStep (by omega) HL.out (b := b) (by rw [HN.out, HQ.out, HP.out]; exact HB.out)
        rw [HN.out, HQ.out, HP.out, ← HZZ.out] at htp
        have hcn : cnt leaf (i + 1) = N := by rw [← HN.out]; simp [cnt, HL.out]
        go_roundg (gk - 1)
        case measure => omega
        case rel => exact ⟨i + 1, gN, cN, gS, cS, bs, _, _, by omega, by omega, by go_num, by rw [hcn], by rw [hcn], htp, HR.out, hm4⟩
      | false =>
        have cna : (w3.alloc (.map #[] 0)).cell? ⟨gN, p, none⟩ = some (.map (some b)) := row_cell (HM3.out.alloc (.map #[] 0)).nodes (by simp [mCells, HB.out])
        have hbw := HM3.out.blt hbm
        have hw3 := HM3.out.below.size
        have hlt3 : ∀ x ∈ bs, x < w3.heap.size := fun x hx => HM3.out.blt hx
        have HLT3 := hide hlt3
        clear cn hlt3
        go_wp2_with (first
          | (at_mapUpdate; refine wpList_mapUpdate_own _ rfl _ _ _ 24 rfl 9 24 law Yba.underlying24 subElem b i (Dm b) rfl (World.ownsMap.alloc hob _) (by unfold maxLen; omega) _ _ _ rfl rfl HKEY.out (sub (some w3.heap.size)) [] rfl ?_; intro w4 hown4 hg4; have hm4 := (HM3.out.alloc (.map #[] 0)).put hbm hg4 hown4; have ho4 : Own w4 w3.heap.size (i + 1) (.map []) := (World.ownsMap.kept (World.ownsMap_made w3 Yba.prog 9 subElem) hg4 (fun e => by have := Option.some.inj e; omega)).mono (Nat.zero_le _); have hs4 : w3.heap.size + 1 ≤ w4.heap.size := by { have := hg4.size; simpa using this }; have hn4 := hm4.nodes; rw [HBL.out] at hn4; clear cna)
          | (at_builtin; refine wpList_append_own_at _ rfl _ _ 26 rfl w.heap.size 24 im (.map none) 1 8 Yba.underlying26 hm hm0 hm1 hm2 rfl (by decide) (.slice (some ⟨gN, 0, none⟩) N cN) N (mCells bs) rfl (hn4.alloc _) ⟨w4.heap.size, 0, none⟩ 1 1 [.map (some w3.heap.size)] rfl rfl (cell_one_new _ _ _) (mCells_one [w3.heap.size]) (by unfold maxLen; omega) (by omega) (by simp; omega) ?_; intro v5 w5 hown5 hg5 hnil5 hloc5; clear hnil5 hloc5; have hg45 := (grownBy_none_any (World.grownBy_alloc w4 (.cells #[.map (some w3.heap.size)] 24) none) (some gN)).trans hg5; have hs5 := hg45.size; have hz5 := (hm4.sizes.kept hg45 (.inr (by simp [Value.ownBlock]; exact fun e => hm4.gne e.symm))); rw [List.length_set, HZL.out] at hz5)
          | (at_builtin; refine wpList_append_own_at _ rfl _ _ 27 rfl w.heap.size 3 iz (.int .i64 0) 1 8 Yba.underlying27 hz hz0 hz1 hz2 rfl (by decide) (.slice (some ⟨gS, 0, none⟩) N cS) N (zCells (zs.set p (z + 1))) rfl (hz5.alloc _) ⟨w5.heap.size, 0, none⟩ 1 1 [.int .i64 0] rfl rfl (cell_one_new _ _ _) (ints_oneCell .i64 [0]) (by unfold maxLen; omega) (by omega) (by simp; omega) ?_; intro v6 w6 hown6 hg6 hnil6 hloc6; clear hnil6 hloc6; have hg56 := (grownBy_none_any (World.grownBy_alloc w5 (.cells #[.int .i64 0] 3) none) (some gS)).trans hg6))
        obtain ⟨g5, c5, rfl, _⟩ := row_shape hown5 (by omega)
        obtain ⟨g6, c6, rfl, _⟩ := row_shape hown6 (by omega)
        have hm5 := hm4.node (c := w3.heap.size) hg45 (by rw [HBL.out]; exact hown5) ho4 (by omega) HLT3.out
        have hm6 := hm5.sizeApp hg56 (by rw [List.length_set, HZL.out]; exact hown6)
        have htp := HTP.out.nodeStep (by omega) HL.out (b := b) (c := w3.heap.size) (by rw [HN.out, HQ.out, HP.out]; exact HB.out) HLT3.out
        rw [HN.out, HQ.out, HP.out, ← HZZ.out] at htp
        rw [upd_comm _ _ _ (show b ≠ w3.heap.size by omega)] at hm6
        have hcn : cnt leaf (i + 1) = N + 1 := by rw [← HN.out]; simp [cnt, HL.out]
        go_roundg (gk - 1)
        case measure => omega
        case rel =>
          refine ⟨i + 1, g5, c5, g6, c6, _, _, _, by omega, by omega, by go_num, by rw [hcn], by rw [hcn], htp, ?_, hm6⟩
          rw [List.getElem?_append_left (by rw [HBL.out]; omega)]
          exact HR.out
    · obtain rfl : i = sl := by omega
      have hlti : ¬ (i : Int) < (i : Int) := by omega
      have hrm := List.mem_of_getElem? hroot
      have HCL := hide (clone_any (· ∈ bs) Dm wr.heap.size (fun c hc => hmem.blt hc) wr.heap.size w.heap.size wr (by omega) (Nat.le_refl _) hrm (htp.src (fun b hb => (hmem.maps b hb).mono (by omega))))
      have hes := eql_some
      have HTP := hide htp
      have HMEM := hide hmem
      have HR := hide hroot
      have hlo := hmem.lt
      have hlob : ∀ b ∈ bs, b < wr.heap.size := fun b hb => hmem.blt hb
      have HLOB := hide hlob
      clear htp hmem hroot hlob hmm hnn
      go_wp2_with (go_at_call 4; refine HCL.out.mono ?_; rintro e w2 ⟨b', S, rfl, hS, hsim, hbel2⟩)
      have hmem2 := HMEM.out.quiet (Below.grownNone hbel2)
      have hs2 := hbel2.size
      have htw : Tw w (w2.alloc (Obj.cells #[Value.map (some b')] 24)) wr.heap.size gN cN gS cS bs zs Dm i w2.heap.size 1 [b'] :=
        ⟨hmem2.alloc _, by simpa [mCells] using one_row w2 (.map (some b')) 24 w.heap.size (by have := hmem2.below.size; omega), by omega, ⟨hlo.1, hlo.2.1⟩, HLOB.out, by have := HMEM.out.below.size; omega⟩
      have hsim2 := hsim.hush (World.grownBy_alloc w2 (Obj.cells #[Value.map (some b')] 24) none)
      have HTW := hide htw
      have HSIM := hide hsim2
      have HS0 := hide hS
      clear hmem2 htw hsim hsim2 hS hbel2 HCL HMEM hlo
      generalize wr.heap.size = lo at *
      generalize w2.alloc (Obj.cells #[Value.map (some b')] 24) = WT at *
      generalize w2.heap.size = gT0 at *
      go_loopg [12, 83] i (fun gk tv iv wx => ∃ (k gT cT : Nat) (T : List Nat), k ≤ i ∧ i ≤ gk + k ∧ iv = .int .i64 (k : Int) ∧ tv = .slice (some ⟨gT, 0, none⟩) (cnt leaf k) cT ∧ T.length = cnt leaf k ∧ (∀ j b, j < cnt leaf k → bs[j]? = some b → ∃ t, T[j]? = some t ∧ S b t) ∧ Tw w wx lo gN cN gS cS bs zs Dm i gT cT T ∧ Sim wx lo Dm S)
      case atStart =>
        refine ⟨0, gT0, 1, [b'], by omega, by omega, rfl, rfl, rfl, fun j b hj hb => ?_, HTW.out, HSIM.out⟩
        obtain rfl : j = 0 := by simp [cnt] at hj; omega
        rw [HR.out] at hb
        cases hb
        exact ⟨b', rfl, HS0.out⟩
      case round =>
        clear HTW HSIM HS0
        obtain ⟨k, gT, cT, T, hk, hgk2, rfl, rfl, hTl, hTS, htw, hsim⟩ := hrel
        have hcl := cnt_le leaf k
        have hcp := cnt_pos leaf k
        by_cases hlt : k < i
        · obtain ⟨sb, so, hsa, s0, s1, s2, hp255, hks⟩ := HST.out.below htw.mem.below k hlt
          subst hsa
          have hpl := Nat.mod_lt (par k) hcp
          obtain ⟨b, hb, hen⟩ := HTP.out.entry k hlt
          obtain ⟨t, ht, hSt⟩ := hTS _ b hpl hb
          obtain ⟨hlt', D', hown', hal⟩ := hsim b t hSt
          have hbm : b ∈ bs := List.mem_of_getElem? hb
          have hhas : has (Dm b) (nm key k) = true := has_true_of_atKey hen
          obtain ⟨o, o', ha1, ha2, hpair⟩ := hal.2 _ hhas
          have ho := sub_inj ((ha1 .nil).symm.trans (hen .nil))
          have hhas' : has D' (nm key k) = true := by rw [hal.1]; exact hhas
          clear hal ha1 hen
          have hkey : keyOf Yba.prog 9 (.string (nameOf (key k) k)) = some (nm key k) := by
            have h1 := decs_length k
            have h2 := nameOf_size (key k) k
            have := WideMaps.keyOf_string_mk Yba.underlying9 (s := nameOf (key k) k) (by unfold maxLen; omega)
            rw [this, nm]
          have hlook : ∀ wx, Own wx t 2000 D' → (Instr.lookup 24 (.map (some t)) (.string (nameOf (key k) k)) true).run Yba.prog wx = .ok (.tuple #[.map o', .bool true]) wx := by
            intro wx hox
            obtain ⟨v, ps, hrun, hv⟩ := World.ownsMap.look_ok hox law Yba.underlying24 (zeroE wx) (zd := .nil) (zp := []) rfl hkey
            obtain ⟨ov, rfl, hy⟩ := subElem_inv hv
            have := congrArg Prod.fst hy
            simp only [ha2] at this
            rw [hrun, hhas', sub_inj this]
          have HLOOK := hide hlook
          have HTW := hide htw
          have HSIM := hide hsim
          have HTS := hide hTS
          have HT := hide ht
          have HOWN := hide hown'
          have HO := hide ho
          have HPAIR := hide hpair
          have HTL := hide hTl
          clear hlook htw hsim hTS ht hown' ho hpair hTl hkey ha2 hhas hhas' hb
          have hlti2 : (k : Int) < (i : Int) := by omega
          generalize hN : cnt leaf k = N at *
          have HN := hide hN
          clear hN
          generalize hP : par k % N = p at *
          have HMOD := hide (show ((par k : Nat) : Int) % (N : Int) = (p : Int) by rw [← hP]; simp)
          clear hP
          generalize hq : par k = q at *
          clear hq
          generalize hk0 : key k = kk at *
          clear hk0
          generalize hL : leaf k = lf at *
          have HL := hide hL
          clear hL
          have hN0 : ¬ (N : Int) = 0 := by omega
          have hN0b : ((N : Int) == 0) = false := by simp; omega
          go_upto_if 108 with (go_at_call 5; rw [HMOD.out]; refine (name_any kk k _ hks (by omega)).mono ?_; rintro e w3 ⟨rfl, hbel3⟩; have hstc := fun o => hbel3.cell (p := ⟨wr.heap.size, o, none⟩) (by simp); simp at hstc; have hgn := (World.grownBy_alloc wr (Obj.cells #[.int .u8 (q : Int), .string kk, .bool lf] 29) none).trans (Below.grownNone hbel3); have htw3 := HTW.out.quiet hgn; have hsim3 := HSIM.out.hush hgn; have cT3 : w3.cell? ⟨gT, p, none⟩ = some (.map (some t)) := row_cell htw3.twins (by simp [mCells, HT.out]); have hl3 := HLOOK.out w3 (World.ownsMap.kept HOWN.out hgn (by simp)))
          have hneq := neq_nil
          cases lf with
          | true =>
            have ho' : o' = none := by
              have h1 := HO.out
              simp only [if_true] at h1
              rcases HPAIR.out with ⟨_, h2⟩ | ⟨c, c', h2, _⟩
              · exact h2
              · rw [h1] at h2; cases h2
            subst ho'
            have hcn : cnt leaf (k + 1) = N := by rw [← HN.out]; simp [cnt, HL.out]
            go_wp2_with fail
            go_roundg (gk - 1)
            case measure => omega
            case rel => exact ⟨k + 1, gT, cT, T, by omega, by omega, by go_num, by rw [hcn], by rw [hcn]; exact HTL.out, by rw [hcn]; exact HTS.out, htw3, hsim3⟩
          | false =>
            have hcn : cnt leaf (k + 1) = N + 1 := by rw [← HN.out]; simp [cnt, HL.out]
            have hNl : N < bs.length := by
              have := cnt_mono_le leaf (show k + 1 ≤ i by omega)
              have := HTP.out.len
              omega
            obtain ⟨c, c', hc, hc', hScc⟩ : ∃ c c', bs[N]? = some c ∧ o' = some c' ∧ S c c' := by
              have h1 := HO.out
              simp only [Bool.false_eq_true, if_false] at h1
              rcases HPAIR.out with ⟨h2, _⟩ | ⟨c, c', h2, h3, h4⟩
              · rw [h1, List.getElem?_eq_getElem hNl] at h2; cases h2
              · exact ⟨c, c', h1 ▸ h2, h3, h4⟩
            subst hc'
            have HC := hide hc
            clear hc
            have htn := htw3.twins
            rw [HTL.out] at htn
            have hw3s := htw3.mem.below.size
            have htl3 := (htw3.twins.lt gT rfl).2
            go_wp2_with (at_builtin; refine wpList_append_own_at _ rfl _ _ 26 rfl w.heap.size 24 im (.map none) 1 8 Yba.underlying26 hm hm0 hm1 hm2 rfl (by decide) (.slice (some ⟨gT, 0, none⟩) N cT) N (mCells T) rfl (htn.alloc _) ⟨w3.heap.size, 0, none⟩ 1 1 [.map (some c')] rfl rfl (cell_one_new _ _ _) (mCells_one [c']) (by unfold maxLen; omega) (by omega) (by simp; omega) ?_; intro v5 w5 hown5 hg5 hnil5 hloc5; have hg35 := (grownBy_none_any (World.grownBy_alloc w3 (.cells #[.map (some c')] 24) none) (some gT)).trans hg5)
            obtain ⟨g5, c5, rfl, _⟩ := row_shape hown5 (by omega)
            have hlo5 : lo ≤ g5 := by
              have h1 := htw3.gt
              rcases hloc5 with h | h
              · simp [Value.ownBlock] at h; omega
              · simp [Value.ownBlock] at h; omega
            have htw5 := htw3.app (t := c') hg35 (by rw [HTL.out]; exact hown5) hlo5
            have hsim5 := hsim3.grown hg35 (fun g e => by cases e; obtain ⟨cur, h⟩ := row_obj htw3.twins; exact ⟨cur, 24, h⟩)
            go_roundg (gk - 1)
            case measure => omega
            case rel =>
              refine ⟨k + 1, g5, c5, T ++ [c'], by omega, by omega, by go_num, by rw [hcn], by rw [hcn]; simp [HTL.out], fun j x hj hx => ?_, htw5, hsim5⟩
              rw [hcn] at hj
              by_cases e : j = N
              · subst e
                rw [HC.out] at hx
                cases hx
                exact ⟨c', by rw [← HTL.out]; simp, hScc⟩
              · obtain ⟨t', h1, h2⟩ := HTS.out j x (by omega) hx
                exact ⟨t', by rw [List.getElem?_append_left (by rw [HTL.out]; omega)]; exact h1, h2⟩
        · obtain rfl : k = i := by omega
          have hlti2 : ¬ (k : Int) < (k : Int) := by omega
          have hbl := HTP.out.len
          have hzl := HTP.out.zlen
          have HTW := hide htw
          have HSIM := hide hsim
          have HTS := hide hTS
          have HTL := hide hTl
          clear htw hsim hTS hTl
          clear HST
          generalize cnt leaf k = N at *
          have hNN : ((N : Int) != (N : Int)) = false := by simp
          go_wp2_with fail
          go_loopg [19] N (fun gk iv wx => ∃ j : Nat, j ≤ N ∧ N ≤ gk + j ∧ iv = .int .i64 (j : Int) ∧ Tw w wx lo gN cN gS cS bs zs Dm k gT cT T ∧ Sim wx lo Dm S)
          case atStart => exact ⟨0, by omega, by omega, rfl, HTW.out, HSIM.out⟩
          case round =>
            clear HTW HSIM
            obtain ⟨j, hj, hgj, rfl, htw, hsim⟩ := hrel
            by_cases hjN : j < N
            · obtain ⟨b, hb⟩ : ∃ b, bs[j]? = some b := ⟨_, List.getElem?_eq_getElem (by omega)⟩
              obtain ⟨t, ht, hSt⟩ := HTS.out j b hjN hb
              obtain ⟨hlt', D', hown', hal⟩ := hsim b t hSt
              have hbm := List.mem_of_getElem? hb
              have hsz : Maps.size D' = Maps.size (Dm b) := size_alike (World.ownsMap.canon (htw.mem.maps b hbm) law) (World.ownsMap.canon hown' law) hal.1
              have hzj := HTP.out.sizes j b hb
              obtain ⟨z, hz'⟩ : ∃ z, z = Maps.size (Dm b) := ⟨_, rfl⟩
              rw [← hz'] at hsz hzj
              have hsm := HTP.out.small b hbm
              rw [← hz'] at hsm
              clear hz'
              have cT1 : wr.cell? ⟨gT, j, none⟩ = some (.map (some t)) := row_cell htw.twins (by simp [mCells, ht])
              have cS1 : wr.cell? ⟨gS, j, none⟩ = some (.int .i64 (z : Int)) := row_cell htw.mem.sizes (by simp [zCells, hzj])
              have hlen : ∀ m ty, (Builtin.len_ #[24] ty #[.map (some t)]).run Yba.prog (wr.drewN m) = .ok (.int .i64 (z : Int)) (wr.drewN m) := by
                intro m ty
                rw [World.ownsMap.len (w := wr.drewN m) hown' Yba.underlying24 ty, hsz]
              have hlen0 : ∀ ty, (Builtin.len_ #[24] ty #[.map (some t)]).run Yba.prog wr = .ok (.int .i64 (z : Int)) wr := hlen 0
              have hzz : ((z : Int) != (z : Int)) = false := by simp
              have hji : (j : Int) < (N : Int) := by omega
              have HSIM := hide hsim
              clear hal hsim hown' hsz hzj ht hb
              go_wp2_with fail
              go_quiet (fail)
              go_wp2_with fail
              go_roundg (gk - 1)
              case measure => omega
              case rel => exact ⟨j + 1, by omega, by omega, by go_num, htw.drewN _, HSIM.out⟩
            · obtain rfl : j = N := by omega
              have hji : ¬ (j : Int) < (j : Int) := by omega
              have hall : ∀ (m t : Nat), T[m]? = some t → lo ≤ t ∧ ∃ D', Own wr t (2000 + 0) D' := by
                intro m t ht
                have hm' : m < j := by have := (List.getElem?_eq_some_iff.1 ht).1; have := HTL.out; omega
                obtain ⟨b, hb⟩ : ∃ b, bs[m]? = some b := ⟨_, List.getElem?_eq_getElem (by omega)⟩
                obtain ⟨t', ht', hSt⟩ := HTS.out m b hm' hb
                rw [ht] at ht'
                cases ht'
                obtain ⟨h1, D', h2, _⟩ := hsim b t hSt
                exact ⟨h1, D', h2⟩
              have HALL := hide hall
              have HTW := hide htw
              clear hall htw hsim hNN
              go_wp2_with fail
              go_loopg [20] j (fun gk iv wx => ∃ m : Nat, m ≤ j ∧ j ≤ gk + m ∧ iv = .int .i64 (m : Int) ∧ Tw w wx lo gN cN gS cS bs zs Dm k gT cT T ∧ ∀ (m' t : Nat), T[m']? = some t → lo ≤ t ∧ ∃ D', Own wx t (2000 + m) D')
              case atStart => exact ⟨0, by omega, by omega, rfl, HTW.out, HALL.out⟩
              case round =>
                clear HTW HALL
                obtain ⟨m, hmj, hgm, rfl, htw, hall⟩ := hrel
                by_cases hmN : m < j
                · obtain ⟨b, hb⟩ : ∃ b, bs[m]? = some b := ⟨_, List.getElem?_eq_getElem (by omega)⟩
                  obtain ⟨t, ht, _⟩ := HTS.out m b hmN hb
                  obtain ⟨hlt', D', hown'⟩ := hall m t ht
                  have hbm := List.mem_of_getElem? hb
                  have hzj := HTP.out.sizes m b hb
                  obtain ⟨z, hz'⟩ : ∃ z, z = Maps.size (Dm b) := ⟨_, rfl⟩
                  have hsm := HTP.out.small b hbm
                  rw [← hz'] at hzj hsm
                  have HZ := hide hz'
                  clear hz'
                  have cT1 : wr.cell? ⟨gT, m, none⟩ = some (.map (some t)) := row_cell htw.twins (by simp [mCells, ht])
                  have hji2 : (m : Int) < (j : Int) := by omega
                  have hzz : ((z : Int) != (z : Int)) = false := by simp
                  have HALL := hide hall
                  have HTW := hide htw
                  have HB := hide hb
                  have HZJ := hide hzj
                  have HT := hide ht
                  clear hall htw hb hzj ht
                  go_wp2_with (at_mapUpdate; refine wpList_mapUpdate_own _ rfl _ _ _ 24 rfl 9 24 law Yba.underlying24 subElem t (2000 + m) D' rfl hown' (by unfold maxLen; omega) _ _ _ rfl rfl (WideMaps.keyOf_string_mk Yba.underlying9 (by unfold maxLen; decide)) (sub none) [] rfl ?_; intro w5 hown5 hg5; have htw5 := HTW.out.put hlt' hown' hg5; have cN5 : w5.cell? ⟨gN, m, none⟩ = some (.map (some b)) := row_cell htw5.mem.nodes (by simp [mCells, HB.out]); have cS5 : w5.cell? ⟨gS, m, none⟩ = some (.int .i64 (z : Int)) := row_cell htw5.mem.sizes (by simp [zCells, HZJ.out]); have hlen : ∀ m ty, (Builtin.len_ #[24] ty #[.map (some b)]).run Yba.prog (w5.drewN m) = .ok (.int .i64 (z : Int)) (w5.drewN m) := (fun m ty => by rw [World.ownsMap.len (w := w5.drewN m) (htw5.mem.maps b hbm) Yba.underlying24 ty, HZ.out]); have hlen0 : ∀ ty, (Builtin.len_ #[24] ty #[.map (some b)]).run Yba.prog w5 = .ok (.int .i64 (z : Int)) w5 := hlen 0)
                  go_quiet (fail)
                  go_wp2_with fail
                  go_roundg (gk - 1)
                  case measure => omega
                  case rel =>
                    refine ⟨m + 1, by omega, by omega, by go_num, htw5.drewN _, fun m' t' ht' => ?_⟩
                    obtain ⟨h1, D2, h2⟩ := HALL.out m' t' ht'
                    refine ⟨h1, ?_⟩
                    by_cases e : t' = t
                    · subst e; exact ⟨_, hown5⟩
                    · exact ⟨D2, (World.ownsMap.kept h2 hg5 (fun e' => e (Option.some.inj e'))).mono (by omega)⟩
                · obtain rfl : m = j := by omega
                  have hji2 : ¬ (m : Int) < (m : Int) := by omega
                  go_wp2_with fail
                  go_ret
                  exact ⟨rfl, htw.mem.below⟩
end Go.Proofs.Ybulkdafm
