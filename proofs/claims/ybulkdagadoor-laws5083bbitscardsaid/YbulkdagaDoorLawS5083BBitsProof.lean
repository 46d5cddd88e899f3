/-
  The proof of the row LawS5083BBits and of its tied card.
-/
import Derived.Test.YbulkdagaDoorLaw
import Derived.Test.YbulkdagaDoorCards
import Derived.Test.YbulkdagaDoorTie
import Derived.ProofKit
import Derived.OpenShut
import Derived.ShutString
import Derived.ChangeOld
import Derived.Below
import Derived.ChangeSame
import Derived.ChangeVars
import Derived.JoinedOf
import Derived.LaidLaws
import Derived.LaidMore
import Derived.SevenTiedAt
namespace Go.Proofs.YbulkdagaDoor.lawS5083BBits
open Go.ChangeShapes Go.WideShapes Go.ChangeAt Go.RowKit
set_option linter.unusedVariables false
set_option linter.unusedSimpArgs false

theorem own : ownKnob Ybad.prog.godebug = none := by kernel_rfl
theorem laidOut : laidOutB Ybad.prog = true := by kernel_rfl

/-! ### What the listed variables hold -/
def laid2 : List (String × DataW Unit) := [("io.EOF", Rows.laid_io_EOF), ("io.ErrUnexpectedEOF", Rows.laid_io_ErrUnexpectedEOF)]
theorem gEOF : Ybad.prog.globalNamed "io.EOF" = some 0 := by kernel_rfl
theorem gUnx : Ybad.prog.globalNamed "io.ErrUnexpectedEOF" = some 1 := by kernel_rfl
theorem gEOFt : (Ybad.prog.globals[0]?).map (·.type) = some 24 := by kernel_rfl
theorem gUnxt : (Ybad.prog.globals[1]?).map (·.type) = some 24 := by kernel_rfl
theorem cells52 : Ybad.prog.cellsOf 52 = 1 := by kernel_rfl
theorem cells9 : Ybad.prog.cellsOf 9 = 1 := by kernel_rfl
def st : String := String.singleton (Char.ofNat 42)
theorem row50 (u : TypeId) (h : Ybad.prog.typeName? 3 u = some (st ++ "errors.errorString")) : u = 50 :=
  typeName_ptr_named (nm := "errors.errorString") (by kernel_rfl) (by kernel_rfl) (by decide) u (h.trans (congrArg some (by decide)))

theorem sentinels_of_laid {W : World} (h : laidMet Ybad.prog laid2 W) :
    ∃ (a0 a1 : Addr) (c0 : Array Value) (t0 : TypeId), W.cell? ⟨0, 0, none⟩ = some (.iface 50 (.pointer (some a0))) ∧ W.cell? ⟨1, 0, none⟩ = some (.iface 50 (.pointer (some a1))) ∧ W.heap[a0.block]? = some (.cells c0 t0 (0, 0)) := by
  obtain ⟨ps, ⟨g0, t0, cs0, f0, p0, q0, hg0, ht0, hv0, hd0, ⟨g1, t1, cs1, f1, p1, q1, hg1, ht1, hv1, hd1, hq1, e1⟩, e0⟩, hnd, hrows⟩ := h
  obtain rfl := Option.some.inj (gEOF.symm.trans hg0)
  obtain rfl := Option.some.inj (gUnx.symm.trans hg1)
  obtain rfl := Option.some.inj (gEOFt.symm.trans ht0)
  obtain rfl := Option.some.inj (gUnxt.symm.trans ht1)
  have hq1' : q1 = [] := hq1
  subst hq1'
  subst e1
  subst e0
  obtain ⟨l0⟩ := cs0
  obtain ⟨l1⟩ := cs1
  have ok0 : ∀ u v, l0 = [.iface u v] → Value.okWide Ybad.prog W .any 0 u v := fun u v e => by
    subst e
    exact (hrows 0 0 (by simp [MemPlace.row])).2 u v (by simpa using World.var?_cell hg0 hv0 0)
  have ok1 : ∀ u v, l1 = [.iface u v] → Value.okWide Ybad.prog W .any 0 u v := fun u v e => by
    subst e
    exact (hrows 1 0 (by simp [MemPlace.row])).2 u v (by simpa using World.var?_cell hg1 hv1 0)
  obtain ⟨a0, s0, rfl, hc0, hs0, hz0, rfl⟩ := errorString_of_trod Ybad.underlying24 (fun u h => row50 u (h.trans (congrArg some (by decide)))) Ybad.underlying50 Ybad.underlying52 rfl rfl Ybad.underlying9 cells52 cells9 hd0 ok0
  obtain ⟨a1, s1, rfl, hc1, hs1, hz1, rfl⟩ := errorString_of_trod Ybad.underlying24 (fun u h => row50 u (h.trans (congrArg some (by decide)))) Ybad.underlying50 Ybad.underlying52 rfl rfl Ybad.underlying9 cells52 cells9 hd1 ok1
  obtain ⟨c0, t0, hb0⟩ := (hrows a0.block a0.off (by simp [MemPlace.row])).1
  exact ⟨a0, a1, c0, t0, by simpa using World.var?_cell gEOF hv0 0, by simpa using World.var?_cell gUnx hv1 0, hb0⟩

/-! ### One start that fits: the heap that the door's own run leaves -/
theorem door_met (os : Os) (args : Array Value) : laidMet Ybad.prog laid2 ((World.doorLaid Ybad.prog 400 os).forCall (fun _ _ => 0) ⟨#[], args, []⟩).memory :=
  laidMet_of_run' 8 (by kernel_rfl) (by kernel_rfl)

/-! ### The walk, over what the row hands in -/
/-- What the walk is told of a slice of bytes that came in. -/
def IsRow (w : World) (a : Option Addr) (len cap : Nat) (zs : List Int) : Prop :=
  (a = none ∧ len = 0 ∧ cap = 0 ∧ zs = []) ∨
  ∃ x, a = some x ∧ len ≤ cap ∧ cap ≤ maxLen ∧ zs.length = cap ∧ (∀ i, i < zs.length → w.cell? (x.add i) = some (.int .u8 (zs.getD i 0))) ∧ ∀ n ∈ zs, (Lit.int .u8 n).wf = true

theorem IsRow.len {w : World} {a : Option Addr} {len cap : Nat} {zs : List Int} (h : IsRow w a len cap zs) : len ≤ maxLen ∧ (a = none → len = 0) := by
  rcases h with ⟨rfl, rfl, _, _⟩ | ⟨x, rfl, h1, h2, _⟩
  · exact ⟨Nat.zero_le _, fun _ => rfl⟩
  · exact ⟨by omega, fun h => by cases h⟩
theorem getD_wf {zs : List Int} (h : ∀ n ∈ zs, (Lit.int .u8 n).wf = true) {i : Nat} (hi : i < zs.length) : 0 ≤ zs.getD i 0 ∧ zs.getD i 0 ≤ 255 := by
  rw [List.getD_eq_getElem?_getD, List.getElem?_eq_getElem hi]
  exact bounds_u8 (h _ (List.getElem_mem hi))
theorem IsRow.cuts {w : World} {a : Option Addr} {len cap : Nat} {zs : List Int} (h : IsRow w a len cap zs) : Cuts w a len := by
  intro k hk
  rcases h with ⟨_, rfl, _, _⟩ | ⟨x, rfl, h1, h2, h3, hcell, hwf⟩
  · omega
  · obtain ⟨b, off, spot⟩ := x
    have hspot : spot = none := by simpa [Addr.add] using World.cell?_spot (hcell 0 (by omega))
    subst hspot
    have hc := hcell k (by omega)
    rw [add_plain] at hc
    exact ⟨b, off, _, rfl, hc, getD_wf hwf (by omega)⟩
theorem IsRow.data {w : World} {a : Option Addr} {len cap : Nat} {zs : List Int} (h : IsRow w a len cap zs) : ∃ X, ∀ x, a = some x → ∀ i u, (dCells X len)[i]? = some u → w.cell? (x.add i) = some u := by
  rcases h with ⟨rfl, _, _, _⟩ | ⟨y, rfl, h1, h2, h3, hcell, hwf⟩
  · exact ⟨0, fun x hx => by cases hx⟩
  · refine ⟨Num.val ((zs.take len).map Int.toNat), fun x hx i u hu => ?_⟩
    obtain rfl := Option.some.inj hx
    have hi : i < len := by
      have := (List.getElem?_eq_some_iff.1 hu).1
      rw [dCells_length] at this; exact this
    rw [dCells_get _ _ _ hi, Num.val_byte] at hu
    · rw [hcell i (by omega), ← hu]
      have hb := getD_wf hwf (show i < zs.length by omega)
      have e : ((zs.take len).map Int.toNat).getD i 0 = (zs.getD i 0).toNat := by
        rw [List.getD_eq_getElem?_getD, List.getD_eq_getElem?_getD, List.getElem?_map, List.getElem?_take_of_lt hi, List.getElem?_eq_getElem (show i < zs.length by omega)]
        rfl
      rw [e]
      congr 2
      generalize zs.getD i 0 = z at *
      omega
    · intro b hb
      simp only [List.mem_map] at hb
      obtain ⟨n, hn, rfl⟩ := hb
      have := bounds_u8 (hwf n (List.mem_of_mem_take hn))
      omega

set_option maxHeartbeats 400000 in
theorem walk_big (da : Option Addr) (dl dc : Nat) (ca : Option Addr) (cl cc : Nat) (na : Option Addr) (nl nc : Nat) (cu : Bool) (w : World) (h1 : dl ≤ maxLen) (h2 : cl ≤ maxLen) (h3 : nl ≤ maxLen) (h : 4096 < dl ∨ 4096 < cl ∨ 1024 < nl) :
    Calls Ybad.prog 3 #[.slice da dl dc, .slice ca cl cc, .slice na nl nc, .bool cu] w fun e w' => e = .returned (.bool true) ∧ Below w.heap.size w w' := by
  unfold maxLen at h1 h2 h3
  by_cases b1 : 4096 < dl
  · clear h
    go_enter Ybad.func3, Ybad.ntmps3
    go_wp2
    go_ret
    exact ⟨rfl, Below.refl _ _⟩
  · by_cases b2 : 4096 < cl
    · clear h
      go_enter Ybad.func3, Ybad.ntmps3
      go_wp2
      go_ret
      exact ⟨rfl, Below.refl _ _⟩
    · have b3 : 1024 < nl := by omega
      clear h
      go_enter Ybad.func3, Ybad.ntmps3
      go_wp2
      go_ret
      exact ⟨rfl, Below.refl _ _⟩

theorem walk (da : Option Addr) (dl dc : Nat) (dz : List Int) (ca : Option Addr) (cl cc : Nat) (cz : List Int) (na : Option Addr) (nl nc : Nat) (nz : List Int) (cu : Bool) (w : World)
    (w0 : IsRow w da dl dc dz) (w1 : IsRow w ca cl cc cz) (w2 : IsRow w na nl nc nz) (hL : laidMet Ybad.prog laid2 w) :
    Calls Ybad.prog 3 #[.slice da dl dc, .slice ca cl cc, .slice na nl nc, .bool cu] w fun e w' => e = .returned (.bool true) ∧ Below w.heap.size w w' := by
  by_cases hbig : 4096 < dl ∨ 4096 < cl ∨ 1024 < nl
  · exact walk_big da dl dc ca cl cc na nl nc cu w w0.len.1 w1.len.1 w2.len.1 hbig
  · obtain ⟨a0, a1, c0, t0, hg0, hg1, hb0⟩ := sentinels_of_laid hL
    obtain ⟨X, hX⟩ := w0.data
    exact law_any X da dl dc ca cl cc na nl nc cu a0 a1 c0 t0 w (by omega) (by omega) (by omega) w0.len.2 hX w1.cuts w2.cuts hg0 hg1 hb0

/-! ### The row -/
theorem row_of {H : Type} {enc : TypeId × Value → H} {W : World} {a : Option Addr} {len cap : Nat} {d : DataW H} {p : List MemPlace} (h : DataW.Trod enc Ybad.prog W 0 (fun _ => true) true 22 (.slice a len cap) d p) : ∃ zs, IsRow W a len cap zs := by
  obtain ⟨fuel, hf⟩ := h
  rcases open_ints Ybad.underlying22 Ybad.underlying5 (by kernel_rfl) hf with ⟨hcs, _⟩ | ⟨x, l, c, zs, hcs, _, hl, hm, hz, _, hcell, hwz⟩
  · simp [Value.cells] at hcs
    obtain ⟨rfl, rfl, rfl⟩ := hcs
    exact ⟨[], .inl ⟨rfl, rfl, rfl, rfl⟩⟩
  · simp [Value.cells] at hcs
    obtain ⟨rfl, rfl, rfl⟩ := hcs
    exact ⟨zs, .inr ⟨_, rfl, hl, hm, by simpa using hz, hcell, hwz⟩⟩

set_option maxRecDepth 100000 in
theorem lifted (os : Os) (started : os.Started) (H : Type) (enc : TypeId × Value → H) :
    ReturnsInHanded {} Ybad.checked os 3 .any (fun w args => (Rows.lawS5083BBitsSpec.pre enc Ybad.prog Ybad.f3 [] false w args ∧ laidMet Ybad.prog laid2 w) ∧ sizedMet enc Ybad.prog Ybad.f3 (OpenSpec.ofChange Rows.lawS5083BBitsSpec) false w args)
      (Rows.lawS5083BBitsSpec.post enc Ybad.prog Ybad.f3 false true false false) := by
  refine returnsInHanded_of_change_and (C := Ybad.checked) (X := fun w _ => laidMet Ybad.prog laid2 w) (fun _ _ _ hh h => h.of_heap hh) own started (by kernel_rfl) Ybad.func3
    (ChangeSpec.witness_shaped (enc := enc) (C := Ybad.checked) (os := os) (X := fun w _ => laidMet Ybad.prog laid2 w) false (World.doorLaid Ybad.prog 400 os) #[.slice none 0 0, .slice none 0 0, .slice none 0 0, .bool false] 8 rfl (World.shaped_of_RefB (by kernel_rfl) (by kernel_rfl)) (by kernel_rfl) (by kernel_rfl) (by kernel_rfl) (door_met os _)) ?_
  intro W base args ds gs before hval0 hW _ _ hL _
  have hval : ∀ (j : Nat) t v, Ybad.f3.params[j]? = some t → args[j]? = some v → Value.okWide Ybad.prog W .any base t v := hval0
  have hW' := hW
  obtain ⟨p, q, hA0, hV, rfl, hfz, hnd⟩ := hW
  have hA : DataW.TrodAll enc Ybad.prog W 0 (fun _ => true) true Ybad.f3.params.toList args.toList ds p := hA0
  rw [Ybad.params3] at hA hval
  obtain ⟨v0, vs0, d0, ds0, p0, q0, hargs, rfl, rfl, h0, r0⟩ := trodAll_cons hA
  obtain ⟨v1, vs1, d1, ds1, p1, q1, rfl, rfl, rfl, h1, r1⟩ := trodAll_cons r0
  obtain ⟨v2, vs2, d2, ds2, p2, q2, rfl, rfl, rfl, h2, r2⟩ := trodAll_cons r1
  obtain ⟨v3, vs3, d3, ds3, p3, q3, rfl, rfl, rfl, h3, r3⟩ := trodAll_cons r2
  obtain ⟨rfl, rfl, rfl⟩ := trodAll_nil r3
  obtain rfl : args = #[v0, v1, v2, v3] := by cases args; simp_all
  obtain ⟨rfl, rfl⟩ := trodVars_none hV
  obtain ⟨a0, len0, cap0, rfl⟩ := okWide_slice Ybad.underlying22 (hval 0 22 v0 rfl rfl)
  obtain ⟨a1, len1, cap1, rfl⟩ := okWide_slice Ybad.underlying22 (hval 1 22 v1 rfl rfl)
  obtain ⟨a2, len2, cap2, rfl⟩ := okWide_slice Ybad.underlying22 (hval 2 22 v2 rfl rfl)
  obtain ⟨b3, rfl, rfl, rfl⟩ := open_bool Ybad.underlying4 (hval 3 4 v3 rfl rfl) h3
  have lt0 : ∀ x ∈ p0, x.block < W.heap.size := by obtain ⟨m, hm⟩ := id h0; exact DataW.trod_lt m _ _ _ hm
  have lt1 : ∀ x ∈ p1, x.block < W.heap.size := by obtain ⟨m, hm⟩ := id h1; exact DataW.trod_lt m _ _ _ hm
  have lt2 : ∀ x ∈ p2, x.block < W.heap.size := by obtain ⟨m, hm⟩ := id h2; exact DataW.trod_lt m _ _ _ hm
  obtain ⟨z0, w0⟩ := row_of h0
  obtain ⟨z1, w1⟩ := row_of h1
  obtain ⟨z2, w2⟩ := row_of h2
  clear hA0 hval0
  refine (walk a0 len0 cap0 z0 a1 len1 cap1 z1 a2 len2 cap2 z2 b3 W w0 w1 w2 hL).mono fun e W' ⟨he, bel⟩ => ?_
  subst he
  exact ⟨_, rfl, _, _, _, [], _, [], hW', trodAll_mk1 (shut_bool Ybad.underlying4 _), (trodAll_cons_mk (Below.trod laidOut (by kernel_rfl) (of_decide_eq_true (by kernel_rfl)) h0 bel lt0) (trodAll_cons_mk (Below.trod laidOut (by kernel_rfl) (of_decide_eq_true (by kernel_rfl)) h1 bel lt1) (trodAll_cons_mk (Below.trod laidOut (by kernel_rfl) (of_decide_eq_true (by kernel_rfl)) h2 bel lt2) (trodAll_cons_mk (shut_bool Ybad.underlying4 _) trodAll_mk0)))), rfl, bel.frame _, fun h => by cases h⟩

theorem over : Rows.LawS5083BBitsSaid :=
  OpenClaim.holds_of_wide 3 Ybad.f3 rfl rfl rfl rfl rfl rfl rfl ⟨rfl, rfl, rfl, rfl, rfl⟩ rfl rfl rfl rfl rfl (by kernel_rfl) Ybad.func3 (by kernel_rfl)
    (of_decide_eq_true (by kernel_rfl)) (by unfold Func.isWrapper; first | (rw [if_pos (by decide +kernel)]; kernel_rfl) | (rw [if_neg (by decide +kernel)]; exact ⟨rfl, rfl⟩))
    (fun os started H enc _ => lifted os started H enc)

/-! ### The card -/
/-- ████ THE STATEMENT ████ -/
theorem proved : Rows.LawS5083BBitsCardSaid :=
  Claim7.holds_tied_plain_at .later [] [.sentinel, .sentinel] true (true, "265ac24699456c1a7ea0ca98f4ee628d9af8fad2911aab4edfeb21c8e4f2df1d") true
    over (fun _ h => by cases h) (by kernel_rfl) (fun _ h => by cases h) lawS5083BBits_row_tie rfl ⟨rfl, rfl⟩ (by kernel_rfl) rfl
    (fun f fn hf hfn => by
      obtain rfl : f = 3 := Option.some.inj ((show Ybad.prog.funcNamed Rows.lawS5083BBitsRow.func = some 3 by kernel_rfl).symm.trans hf) |>.symm
      obtain rfl : fn = Ybad.f3 := (Option.some.inj (Ybad.func3.symm.trans hfn)).symm
      exact ⟨by kernel_rfl, fun j t ht => by
        rw [Ybad.params3] at ht
        have h3 : t = 22 ∨ t = 4 := by
          rcases j with _ | _ | _ | _ | j
          · exact .inl (by simpa using ht.symm)
          · exact .inl (by simpa using ht.symm)
          · exact .inl (by simpa using ht.symm)
          · exact .inr (by simpa using ht.symm)
          · simp at ht
        rcases h3 with rfl | rfl
        · exact (show Ybad.prog.wantsStandIn 22 = false by kernel_rfl)
        · exact (show Ybad.prog.wantsStandIn 4 = false by kernel_rfl)⟩)
    (by kernel_rfl)
end Go.Proofs.YbulkdagaDoor.lawS5083BBits
