/-
  The proof of Rows.LawS5087AScriptSaid: the guide's frame round the walk of YbulkdaieS42.
-/
import Derived.Test.YbulkdaieS42
import Derived.Test.YbulkdaieRows
import Derived.ProofKit
import Derived.OpenShut
import Derived.ChangeOld
import Derived.Below
import Derived.Deep.Slices
namespace Go.Proofs.Ybulkdaie.lawS5087AScript
open Go.ChangeShapes Go.WideShapes Go.ChangeAt Go.RowKit
set_option linter.unusedVariables false
set_option linter.unusedSimpArgs false

theorem own : ownKnob Yba.prog.godebug = none := by kernel_rfl
theorem laidOut : laidOutB Yba.prog = true := by kernel_rfl
theorem cells28 : Yba.prog.cellsOf 28 = 4 := by kernel_rfl
theorem cells5 : Yba.prog.cellsOf 5 = 1 := by kernel_rfl

set_option maxRecDepth 100000 in
/-- One step, from its cells. -/
theorem open_step {H : Type} {enc : TypeId × Value → H} {W : World} {a : Addr} {i n : Nat} {spare : Nat → Bool} {cs : List Value} {d : DataW H} {p : List MemPlace}
    (h1 : W.cells? 0 (a.add (i * Yba.prog.cellsOf 28)) (Yba.prog.cellsOf 28) = some cs) (h2 : DataW.trod enc Yba.prog W 0 spare true n 28 cs = some (d, p)) :
    ∃ q0 q1 q2 q3 : Int, W.cell? (a.add (i * 4)) = some (.int .u8 q0) ∧ W.cell? (a.add (i * 4 + 1)) = some (.int .u8 q1) ∧ W.cell? (a.add (i * 4 + 2)) = some (.int .u8 q2) ∧ W.cell? (a.add (i * 4 + 3)) = some (.int .u8 q3) ∧ (0 ≤ q0 ∧ q0 ≤ 255) ∧ (0 ≤ q1 ∧ q1 ≤ 255) ∧ (0 ≤ q2 ∧ q2 ≤ 255) ∧ (0 ≤ q3 ∧ q3 ≤ 255) := by
  rw [cells28] at h1
  obtain ⟨_, hlen, hcell⟩ := World.cells?_some h1
  obtain ⟨xs, k, hk, hxy, _, hxl, hf⟩ := DataW.trod_struct Yba.underlying28 h2
  match xs, hxl, cs, hlen with
  | [y0, y1, y2, y3], _, [v0, v1, v2, v3], _ =>
    have g0 := hf 0 _ rfl
    have g1 := hf 1 _ rfl
    have g2 := hf 2 _ rfl
    have g3 := hf 3 _ rfl
    simp [cells5] at g0 g1 g2 g3
    have e0 := hcell 0 (by omega)
    have e1 := hcell 1 (by omega)
    have e2 := hcell 2 (by omega)
    have e3 := hcell 3 (by omega)
    rw [Deep.add_add] at e0 e1 e2 e3
    obtain ⟨q0, hq0, _, hw0⟩ := DataW.trod_int Yba.underlying5 g0
    obtain ⟨q1, hq1, _, hw1⟩ := DataW.trod_int Yba.underlying5 g1
    obtain ⟨q2, hq2, _, hw2⟩ := DataW.trod_int Yba.underlying5 g2
    obtain ⟨q3, hq3, _, hw3⟩ := DataW.trod_int Yba.underlying5 g3
    simp at hq0 hq1 hq2 hq3
    subst hq0; subst hq1; subst hq2; subst hq3
    exact ⟨q0, q1, q2, q3, by simpa using e0, by simpa using e1, by simpa using e2, by simpa using e3, bounds_u8 hw0, bounds_u8 hw1, bounds_u8 hw2, bounds_u8 hw3⟩

theorem steps_of {H : Type} {enc : TypeId × Value → H} {W : World} {a : Option Addr} {len cap : Nat} {d : DataW H} {p : List MemPlace} (h : DataW.Trod enc Yba.prog W 0 (fun _ => true) true 22 (.slice a len cap) d p) :
    len ≤ maxLen ∧ ∃ xn xo xe xc, Scr.Steps W a len xn xo xe xc := by
  obtain ⟨fuel, hf⟩ := h
  rcases Deep.open_slice Yba.underlying22 hf with ⟨hcs, _⟩ | ⟨x, l, c, m, n, D, Pl, hcs, _, hl, hm, hmm, hx, hel⟩
  · simp [Value.cells] at hcs
    obtain ⟨rfl, rfl, rfl⟩ := hcs
    exact ⟨Nat.zero_le _, fun _ => 0, fun _ => 0, fun _ => 0, fun _ => 0, fun i hi => by omega⟩
  · simp [Value.cells] at hcs
    obtain ⟨rfl, rfl, rfl⟩ := hcs
    simp only [if_true] at hmm
    subst hmm
    refine ⟨by omega, ?_⟩
    have each : ∀ i, i < len → ∃ q : Nat × Nat × Nat × Nat, W.cell? (x.add (i * 4)) = some (.int .u8 (q.1 : Int)) ∧ W.cell? (x.add (i * 4 + 1)) = some (.int .u8 (q.2.1 : Int)) ∧ W.cell? (x.add (i * 4 + 2)) = some (.int .u8 (q.2.2.1 : Int)) ∧ W.cell? (x.add (i * 4 + 3)) = some (.int .u8 (q.2.2.2 : Int)) ∧ q.1 ≤ 255 ∧ q.2.1 ≤ 255 ∧ q.2.2.1 ≤ 255 ∧ q.2.2.2 ≤ 255 := by
      intro i hi
      obtain ⟨cs', h1, h2⟩ := hel i (by omega)
      obtain ⟨q0, q1, q2, q3, c0, c1, c2, c3, b0, b1, b2, b3⟩ := open_step h1 h2
      refine ⟨(q0.toNat, q1.toNat, q2.toNat, q3.toNat), ?_, ?_, ?_, ?_, ?_, ?_, ?_, ?_⟩
      · rw [c0]; simp; omega
      · rw [c1]; simp; omega
      · rw [c2]; simp; omega
      · rw [c3]; simp; omega
      · simp only; omega
      · simp only; omega
      · simp only; omega
      · simp only; omega
    obtain ⟨q, hq⟩ := Deep.choose_lt each
    refine ⟨fun i => (q i).1, fun i => (q i).2.1, fun i => (q i).2.2.1, fun i => (q i).2.2.2, fun i hi => ?_⟩
    obtain ⟨bb, off, spot⟩ := x
    have hspot : spot = none := by simpa [Addr.add] using World.cell?_spot (hq 0 (by omega)).1
    subst hspot
    obtain ⟨h1, h2, h3, h4, h5⟩ := hq i hi
    rw [add_plain] at h1 h2 h3 h4
    exact ⟨bb, off, rfl, h1, by rw [Nat.add_assoc]; exact h2, by rw [Nat.add_assoc]; exact h3, by rw [Nat.add_assoc]; exact h4, h5⟩

set_option maxRecDepth 100000 in
theorem walk_big (sa : Option Addr) (sl sc : Nat) (w : World) (h : 300 < sl) (hm : sl ≤ maxLen) :
    Calls Yba.prog 3 #[.slice sa sl sc] w fun e w' => e = .returned (.bool true) ∧ Below w.heap.size w w' := by
  unfold maxLen at hm
  go_enter Yba.func3, Yba.ntmps3
  go_wp2
  go_ret
  exact ⟨rfl, Below.refl _ _⟩

set_option maxRecDepth 100000 in
theorem lifted (os : Os) (started : os.Started) (H : Type) (enc : TypeId × Value → H) :
    ReturnsInHanded {} Yba.checked os 3 .any (Rows.lawS5087AScriptSpec.pre6 enc Yba.prog Yba.f3 Rows.lawS5087AScriptRow.domain false) (Rows.lawS5087AScriptSpec.post enc Yba.prog Yba.f3 false true false false) := by
  refine returnsInHanded_of_change (C := Yba.checked) own started (by kernel_rfl) Yba.func3
    (ChangeSpec.witness6 (enc := enc) (C := Yba.checked) false ⟨#[], #[.slice none 0 0], []⟩ 8 (by kernel_rfl) (by kernel_rfl) (by kernel_rfl) (by kernel_rfl)) ?_
  intro W base args ds gs before hval0 hW hcnd _
  have hval : ∀ (j : Nat) t v, Yba.f3.params[j]? = some t → args[j]? = some v → Value.okWide Yba.prog W .any base t v := hval0
  have hW' := hW
  obtain ⟨p, q, hA0, hV, rfl, hfz, hnd⟩ := hW
  have hA : DataW.TrodAll enc Yba.prog W 0 (fun _ => true) true Yba.f3.params.toList args.toList ds p := hA0
  rw [Yba.params3] at hA hval
  obtain ⟨v0, vs0, d0, ds0, p0, q0, hargs, rfl, rfl, h0, r0⟩ := trodAll_cons hA
  obtain ⟨rfl, rfl, rfl⟩ := trodAll_nil r0
  obtain rfl : args = #[v0] := by cases args; simp_all
  obtain ⟨rfl, rfl⟩ := trodVars_none hV
  obtain ⟨a0, len0, cap0, rfl⟩ := okWide_slice Yba.underlying22 (hval 0 22 v0 rfl rfl)
  have lt0 : ∀ x ∈ p0, x.block < W.heap.size := by obtain ⟨m, hm⟩ := id h0; exact DataW.trod_lt m _ _ _ hm
  obtain ⟨hml, xn, xo, xe, xc, hst⟩ := steps_of h0
  clear hA0 hval0
  have hw : Calls Yba.prog 3 #[.slice a0 len0 cap0] W fun e w' => e = .returned (.bool true) ∧ Below W.heap.size W w' := by
    by_cases hbig : 300 < len0
    · exact walk_big a0 len0 cap0 W hbig hml
    · exact Scr.law_any xn xo xe xc a0 len0 cap0 W (by omega) hst
  refine hw.mono fun e W' ⟨he, bel⟩ => ?_
  subst he
  exact ⟨_, rfl, _, _, _, [], _, [], hW', trodAll_mk1 (shut_bool Yba.underlying4 _), trodAll_cons_mk (Below.trod laidOut (by kernel_rfl) (of_decide_eq_true (by kernel_rfl)) h0 bel lt0) trodAll_mk0, rfl, bel.frame _, fun h => by cases h⟩

theorem over : Rows.lawS5087AScriptRow.holds Yba.pinned (OpenSpec.ofChange Rows.lawS5087AScriptSpec) :=
  OpenClaim.holds_of_wide 3 Yba.f3 rfl rfl rfl rfl rfl rfl rfl ⟨rfl, rfl, rfl, rfl, rfl⟩ rfl rfl rfl rfl rfl (by kernel_rfl) Yba.func3 (by kernel_rfl)
    (of_decide_eq_true (by kernel_rfl)) (by unfold Func.isWrapper; first | (rw [if_pos (by decide +kernel)]; kernel_rfl) | (rw [if_neg (by decide +kernel)]; exact ⟨rfl, rfl⟩))
    (fun os started H enc _ => lifted os started H enc)

/-- THE STATEMENT -/
theorem proved : Rows.LawS5087AScriptSaid := over
end Go.Proofs.Ybulkdaie.lawS5087AScript
