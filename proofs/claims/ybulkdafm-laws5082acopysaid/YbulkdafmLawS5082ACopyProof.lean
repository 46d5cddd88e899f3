/-
  The proof of Rows.LawS5082ACopySaid.
-/
import Derived.Test.YbulkdafmLaw
import Derived.ProofKit
import Derived.OpenShut
import Derived.ShutString
import Derived.ChangeOld
import Derived.Below
import Derived.Deep.Slices
import Derived.SizedLaws
namespace Go.Proofs.Ybulkdafm.lawS5082ACopy
open Go.ChangeShapes Go.WideShapes Go.ChangeAt Go.RowKit
set_option linter.unusedVariables false
set_option linter.unusedSimpArgs false

theorem own : ownKnob Yba.prog.godebug = none := by kernel_rfl
theorem laidOut : laidOutB Yba.prog = true := by kernel_rfl
theorem cells29 : Yba.prog.cellsOf 29 = 3 := by kernel_rfl
theorem cells5 : Yba.prog.cellsOf 5 = 1 := by kernel_rfl
theorem cells9 : Yba.prog.cellsOf 9 = 1 := by kernel_rfl
theorem cells4 : Yba.prog.cellsOf 4 = 1 := by kernel_rfl

theorem weightsAll_mem {H : Type} {P : Program} {e : TypeId} {x : Nat} : ∀ {l : List (DataW H)} {d : DataW H}, d ∈ l → x ∈ d.weights P e → x ∈ DataW.weightsAll P e l
  | y :: r, d, h, hx => by
    simp only [DataW.weightsAll, List.mem_append]
    rcases List.mem_cons.1 h with rfl | h
    · exact .inl hx
    · exact .inr (weightsAll_mem h hx)

/-- One step, from its cells. -/
theorem open_step {H : Type} {enc : TypeId × Value → H} {W : World} {a : Addr} {i n : Nat} {spare : Nat → Bool} {cs : List Value} {d : DataW H} {p : List MemPlace}
    (h1 : W.cells? 0 (a.add (i * Yba.prog.cellsOf 29)) (Yba.prog.cellsOf 29) = some cs) (h2 : DataW.trod enc Yba.prog W 0 spare true n 29 cs = some (d, p)) :
    ∃ (q : Int) (s : ByteArray) (b : Bool), W.cell? (a.add (i * 3)) = some (.int .u8 q) ∧ W.cell? (a.add (i * 3 + 1)) = some (.string s) ∧ W.cell? (a.add (i * 3 + 2)) = some (.bool b) ∧ 0 ≤ q ∧ q ≤ 255 ∧ d = .agg [.lit (.int .u8 q), .lit (.string s.data.toList), .lit (.bool b)] := by
  rw [cells29] at h1
  obtain ⟨_, hlen, hcell⟩ := World.cells?_some h1
  obtain ⟨xs, k, hk, hxy, _, hxl, hf⟩ := DataW.trod_struct Yba.underlying29 h2
  match xs, hxl, cs, hlen with
  | [y0, y1, y2], _, [v0, v1, v2], _ =>
    have g0 := hf 0 _ rfl
    have g1 := hf 1 _ rfl
    have g2 := hf 2 _ rfl
    simp [cells5, cells9, cells4] at g0 g1 g2
    have e0 := hcell 0 (by omega)
    have e1 := hcell 1 (by omega)
    have e2 := hcell 2 (by omega)
    rw [Deep.add_add] at e0 e1 e2
    obtain ⟨q, hq, rfl, hw⟩ := DataW.trod_int Yba.underlying5 g0
    obtain ⟨s, hs, rfl, _⟩ := DataW.trod_string Yba.underlying9 g1
    obtain ⟨b, hb, rfl⟩ := DataW.trod_bool Yba.underlying4 g2
    simp at hq hs hb
    subst hq; subst hs; subst hb
    have hb8 := bounds_u8 hw
    simp only [Prod.mk.injEq] at hxy
    exact ⟨q, s, b, by simpa using e0, by simpa using e1, by simpa using e2, hb8.1, hb8.2, by simpa using hxy.1⟩

theorem steps_of {H : Type} {enc : TypeId × Value → H} {W : World} {a : Option Addr} {len cap : Nat} {d : DataW H} {p : List MemPlace} (h : DataW.Trod enc Yba.prog W 0 (fun _ => true) true 22 (.slice a len cap) d p)
    (hsz : ∀ x, x ∈ d.weights Yba.prog 22 → x ≤ reachBytes) : len ≤ maxLen ∧ ∃ par key leaf, Steps W a len par key leaf := by
  obtain ⟨fuel, hf⟩ := h
  rcases Deep.open_slice Yba.underlying22 hf with ⟨hcs, _⟩ | ⟨x, l, c, m, n, D, Pl, hcs, _, hl, hm, hmm, hx, hel⟩
  · simp [Value.cells] at hcs
    obtain ⟨rfl, rfl, rfl⟩ := hcs
    exact ⟨Nat.zero_le _, fun _ => 0, fun _ => ByteArray.empty, fun _ => false, fun i hi => by omega⟩
  · simp [Value.cells] at hcs
    obtain ⟨rfl, rfl, rfl⟩ := hcs
    simp only [if_true] at hmm
    subst hmm
    refine ⟨by omega, ?_⟩
    have hdx : d = .slice ((List.range len).map D) ((List.range (m - len)).map fun j => D (len + j)) := congrArg Prod.fst hx
    have each : ∀ i, i < len → ∃ q : Nat × ByteArray × Bool, W.cell? (x.add (i * 3)) = some (.int .u8 (q.1 : Int)) ∧ W.cell? (x.add (i * 3 + 1)) = some (.string q.2.1) ∧ W.cell? (x.add (i * 3 + 2)) = some (.bool q.2.2) ∧ q.1 ≤ 255 ∧ q.2.1.size ≤ 140737488351232 := by
      intro i hi
      obtain ⟨cs', h1, h2⟩ := hel i (by omega)
      obtain ⟨q, s, b, c0, c1, c2, q0, q1, hD⟩ := open_step h1 h2
      refine ⟨(q.toNat, s, b), ?_, c1, c2, by simp; omega, ?_⟩
      · rw [c0]; simp; omega
      · have hmem : s.data.toList.length ∈ d.weights Yba.prog 22 := by
          rw [hdx]
          simp only [DataW.weights, Yba.underlying22, List.mem_cons, List.mem_append]
          refine .inr (.inl (weightsAll_mem (List.mem_map.2 ⟨i, List.mem_range.2 hi, rfl⟩) ?_))
          rw [hD]
          simp [DataW.weights, DataW.weightsEach, Yba.underlying29]
        have := hsz _ hmem
        have e : s.data.toList.length = s.size := Array.length_toList
        rw [e] at this
        have e2 : reachBytes = 140737488351232 := by decide
        simp only at this ⊢
        omega
    obtain ⟨q, hq⟩ := Deep.choose_lt each
    refine ⟨fun i => (q i).1, fun i => (q i).2.1, fun i => (q i).2.2, fun i hi => ?_⟩
    obtain ⟨bb, off, spot⟩ := x
    have hspot : spot = none := by simpa [Addr.add] using World.cell?_spot (hq 0 (by omega)).1
    subst hspot
    obtain ⟨h1, h2, h3, h4, h5⟩ := hq i hi
    rw [add_plain] at h1 h2 h3
    exact ⟨bb, off, rfl, h1, by rw [Nat.add_assoc]; exact h2, by rw [Nat.add_assoc]; exact h3, h4, h5⟩

theorem walk_big (sa : Option Addr) (sl sc : Nat) (w : World) (h : 1024 < sl) (hm : sl ≤ maxLen) :
    Calls Yba.prog 3 #[.slice sa sl sc] w fun e w' => e = .returned (.bool true) ∧ Below w.heap.size w w' := by
  unfold maxLen at hm
  go_enter Yba.func3, Yba.ntmps3
  go_wp2
  go_ret
  exact ⟨rfl, Below.refl _ _⟩

set_option maxRecDepth 100000 in
theorem lifted (os : Os) (started : os.Started) (H : Type) (enc : TypeId × Value → H) :
    ReturnsInHanded {} Yba.checked os 3 .any (Rows.lawS5082ACopySpec.pre6 enc Yba.prog Yba.f3 Rows.lawS5082ACopyRow.domain false) (Rows.lawS5082ACopySpec.post enc Yba.prog Yba.f3 false true false false) := by
  refine returnsInHanded_of_change_sized (C := Yba.checked) own started (by kernel_rfl) Yba.func3
    (ChangeSpec.witness6 (enc := enc) (C := Yba.checked) false ⟨#[], #[.slice none 0 0], []⟩ 8 (by kernel_rfl) (by kernel_rfl) (by kernel_rfl) (by kernel_rfl)) ?_
  intro W base args ds gs before hval0 hW hcnd hsz0 _
  have hval : ∀ (j : Nat) t v, Yba.f3.params[j]? = some t → args[j]? = some v → Value.okWide Yba.prog W .any base t v := hval0
  have hsz : (DataW.weightsEach Yba.prog (Yba.f3.params.toList ++ Rows.lawS5082ACopySpec.plain.varTypes Yba.prog) (ds ++ gs)).all (· ≤ reachBytes) = true := hsz0
  have hW' := hW
  obtain ⟨p, q, hA0, hV, rfl, hfz, hnd⟩ := hW
  have hA : DataW.TrodAll enc Yba.prog W 0 (fun _ => true) true Yba.f3.params.toList args.toList ds p := hA0
  rw [Yba.params3] at hA hval hsz
  obtain ⟨v0, vs0, d0, ds0, p0, q0, hargs, rfl, rfl, h0, r0⟩ := trodAll_cons hA
  obtain ⟨rfl, rfl, rfl⟩ := trodAll_nil r0
  obtain rfl : args = #[v0] := by cases args; simp_all
  obtain ⟨rfl, rfl⟩ := trodVars_none hV
  obtain ⟨a0, len0, cap0, rfl⟩ := okWide_slice Yba.underlying22 (hval 0 22 v0 rfl rfl)
  have lt0 : ∀ x ∈ p0, x.block < W.heap.size := by obtain ⟨m, hm⟩ := id h0; exact DataW.trod_lt m _ _ _ hm
  obtain ⟨hml, par, key, leaf, hst⟩ := steps_of h0 (fun x hx => by
    have := List.all_eq_true.1 hsz x (by simp only [List.toList_toArray, List.cons_append, List.nil_append, DataW.weightsEach, List.mem_append]; exact .inl hx)
    simpa using this)
  clear hA0 hval0 hsz0
  have hw : Calls Yba.prog 3 #[.slice a0 len0 cap0] W fun e w' => e = .returned (.bool true) ∧ Below W.heap.size W w' := by
    by_cases hbig : 1024 < len0
    · exact walk_big a0 len0 cap0 W hbig hml
    · exact law_any par key leaf a0 len0 cap0 W (by omega) hst
  refine hw.mono fun e W' ⟨he, bel⟩ => ?_
  subst he
  exact ⟨_, rfl, _, _, _, [], _, [], hW', trodAll_mk1 (shut_bool Yba.underlying4 _), trodAll_cons_mk (Below.trod laidOut (by kernel_rfl) (of_decide_eq_true (by kernel_rfl)) h0 bel lt0) trodAll_mk0, rfl, bel.frame _, fun h => by cases h⟩

theorem over : Rows.lawS5082ACopyRow.holds Yba.pinned (OpenSpec.ofChange Rows.lawS5082ACopySpec) :=
  OpenClaim.holds_of_wide 3 Yba.f3 rfl rfl rfl rfl rfl rfl rfl ⟨rfl, rfl, rfl, rfl, rfl⟩ rfl rfl rfl rfl rfl (by kernel_rfl) Yba.func3 (by kernel_rfl)
    (of_decide_eq_true (by kernel_rfl)) (by unfold Func.isWrapper; first | (rw [if_pos (by decide +kernel)]; kernel_rfl) | (rw [if_neg (by decide +kernel)]; exact ⟨rfl, rfl⟩))
    (fun os started H enc _ => lifted os started H enc)

/-- ████ THE STATEMENT ████ -/
theorem proved : Rows.LawS5082ACopySaid := over
end Go.Proofs.Ybulkdafm.lawS5082ACopy
