/-
  The proof of Rows.LawS5087BMarksSaid: the guide's frame round the walk of YbulkdaieMarks.
-/
import Derived.Test.YbulkdaieMarks
import Derived.WalkKit
import Derived.ProofKit
import Derived.OpenShut
import Derived.ShutString
import Derived.ChangeOld
import Derived.Below
import Derived.Deep.SlicePairs
namespace Go.Proofs.Ybulkdaie.lawS5087BMarks
open Go.ChangeShapes Go.WideShapes Go.ChangeAt Go.RowKit
open Go.ChangeMaps (open_string shut_string)
set_option linter.unusedVariables false

theorem own : ownKnob Yba.prog.godebug = none := by kernel_rfl
theorem laidOut : laidOutB Yba.prog = true := by kernel_rfl

theorem walk (a0 a1 a2 : Int) (a3 : Option Addr) (len3 cap3 : Nat) (D : Nat → Int) (R : Nat → Bool) (w : World) (w1 : (Lit.int .u64 a1).wf = true) (w2 : (Lit.int .i64 a2).wf = true)
    (hm : len3 ≤ maxLen) (hD : ∀ i, 0 ≤ D i ∧ D i ≤ 255) (hA : 0 < len3 → ∃ b off, a3 = some ⟨b, off, none⟩ ∧ ∀ i, i < len3 → w.cell? ⟨b, off + i * 2, none⟩ = some (.int .u8 (D i)) ∧ w.cell? ⟨b, off + i * 2 + 1, none⟩ = some (.bool (R i))) :
    Calls Yba.prog 4 #[.int .u64 a0, .int .u64 a1, .int .i64 a2, .slice a3 len3 cap3] w fun e w' => e = .returned (.bool true) ∧ Below w.heap.size w w' := by
  have b1 := bounds_u64 w1
  have b2 := bounds_i64 w2
  by_cases hbig : 512 < len3
  · exact marks_big a0 a1 a2 a3 len3 cap3 w hbig hm
  · exact marks_small a0 a1 a2 a3 len3 cap3 D R w (by omega) (by omega) (by omega) (by omega) (by omega) hD hA

set_option maxRecDepth 100000 in
theorem lifted (os : Os) (started : os.Started) (H : Type) (enc : TypeId × Value → H) :
    ReturnsInHanded {} Yba.checked os 4 .any (Rows.lawS5087BMarksSpec.pre6 enc Yba.prog Yba.f4 Rows.lawS5087BMarksRow.domain false) (Rows.lawS5087BMarksSpec.post enc Yba.prog Yba.f4 false true false false) := by
  refine returnsInHanded_of_change (C := Yba.checked) own started (by kernel_rfl) Yba.func4
    (ChangeSpec.witness6 (enc := enc) (C := Yba.checked) false ⟨#[], #[.int .u64 0, .int .u64 0, .int .i64 0, .slice none 0 0], []⟩ 8 (by kernel_rfl) (by kernel_rfl) (by kernel_rfl) (by kernel_rfl)) ?_
  intro W base args ds gs before hval0 hW hcnd _
  have hval : ∀ (j : Nat) t v, Yba.f4.params[j]? = some t → args[j]? = some v → Value.okWide Yba.prog W .any base t v := hval0
  have hW' := hW
  obtain ⟨p, q, hA0, hV, rfl, hfz, hnd⟩ := hW
  have hA : DataW.TrodAll enc Yba.prog W 0 (fun _ => true) true Yba.f4.params.toList args.toList ds p := hA0
  rw [Yba.params4] at hA hval
  obtain ⟨v0, vs0, d0, ds0, p0, q0, hargs, rfl, rfl, h0, r0⟩ := trodAll_cons hA
  obtain ⟨v1, vs1, d1, ds1, p1, q1, rfl, rfl, rfl, h1, r1⟩ := trodAll_cons r0
  obtain ⟨v2, vs2, d2, ds2, p2, q2, rfl, rfl, rfl, h2, r2⟩ := trodAll_cons r1
  obtain ⟨v3, vs3, d3, ds3, p3, q3, rfl, rfl, rfl, h3, r3⟩ := trodAll_cons r2
  obtain ⟨rfl, rfl, rfl⟩ := trodAll_nil r3
  obtain rfl : args = #[v0, v1, v2, v3] := by cases args; simp_all
  obtain ⟨rfl, rfl⟩ := trodVars_none hV
  obtain ⟨a0, rfl, rfl, rfl, w0⟩ := open_int Yba.underlying30 (hval 0 30 v0 rfl rfl) h0
  obtain ⟨a1, rfl, rfl, rfl, w1⟩ := open_int Yba.underlying30 (hval 1 30 v1 rfl rfl) h1
  obtain ⟨a2, rfl, rfl, rfl, w2⟩ := open_int Yba.underlying3 (hval 2 3 v2 rfl rfl) h2
  obtain ⟨a3, len3, cap3, rfl⟩ := okWide_slice Yba.underlying64 (hval 3 64 v3 rfl rfl)
  have k3 := h3
  have lt3 : ∀ x ∈ p3, x.block < W.heap.size := by obtain ⟨m, hm⟩ := k3; exact DataW.trod_lt m _ _ _ hm
  obtain ⟨D, R, hmax, hD, w3⟩ : ∃ (D : Nat → Int) (R : Nat → Bool), len3 ≤ maxLen ∧ (∀ i, 0 ≤ D i ∧ D i ≤ 255) ∧ (0 < len3 → ∃ b off, a3 = some ⟨b, off, none⟩ ∧ ∀ i, i < len3 → W.cell? ⟨b, off + i * 2, none⟩ = some (.int .u8 (D i)) ∧ W.cell? ⟨b, off + i * 2 + 1, none⟩ = some (.bool (R i))) := by
    obtain ⟨fuel, hf⟩ := h3
    rcases Deep.open_slice_pairs Yba.underlying64 Yba.underlying73 (by kernel_rfl) rfl rfl (by kernel_rfl) (by kernel_rfl) hf with ⟨hcs, _⟩ | ⟨x, l, c, m, n, V0, V1, D0, D1, P0, P1, hcs, _, hl, hm, hmm, _, hcell⟩
    · simp [Value.cells] at hcs
      obtain ⟨rfl, rfl, rfl⟩ := hcs
      exact ⟨fun _ => 0, fun _ => false, by omega, fun _ => by simp, fun h => by omega⟩
    · simp [Value.cells] at hcs
      obtain ⟨rfl, rfl, rfl⟩ := hcs
      have hlm : len3 ≤ m := by rw [hmm]; split <;> omega
      have each : ∀ i, i < len3 → ∃ q : Int × Bool, (0 ≤ q.1 ∧ q.1 ≤ 255) ∧ W.cell? (x.add (i * 2)) = some (.int .u8 q.1) ∧ W.cell? (x.add (i * 2 + 1)) = some (.bool q.2) := by
        intro i hi
        obtain ⟨c0, c1, t0, t1⟩ := hcell i (by omega)
        obtain ⟨z, e0, _, wz⟩ := DataW.trod_int Yba.underlying5 t0
        obtain ⟨b, e1, _⟩ := DataW.trod_bool Yba.underlying4 t1
        simp at e0 e1
        have bz := bounds_u8 wz
        exact ⟨(z, b), by simpa using bz, by rw [c0, e0], by rw [c1, e1]⟩
      obtain ⟨q, hq⟩ := Deep.choose_lt each
      refine ⟨fun i => if i < len3 then (q i).1 else 0, fun i => (q i).2, by omega, fun i => ?_, fun hpos => ?_⟩
      · by_cases hi : i < len3
        · simp only [if_pos hi]; exact (hq i hi).1
        · simp only [if_neg hi]; omega
      · obtain ⟨b, off, spot⟩ := x
        have hspot : spot = none := by simpa [Addr.add] using World.cell?_spot (hq 0 (by omega)).2.1
        subst hspot
        refine ⟨b, off, rfl, fun i hi => ?_⟩
        have := (hq i hi).2
        rw [add_plain, add_plain, ← Nat.add_assoc] at this
        simp only [if_pos hi]
        exact this
  clear hA0 hval0
  refine (walk a0 a1 a2 a3 len3 cap3 D R W w1 w2 hmax hD w3).mono fun e W' ⟨he, bel⟩ => ?_
  subst he
  exact ⟨_, rfl, _, _, _, [], _, [], hW', trodAll_mk1 (shut_bool Yba.underlying4 _), (trodAll_cons_mk (shut_int Yba.underlying30 w0) (trodAll_cons_mk (shut_int Yba.underlying30 w1) (trodAll_cons_mk (shut_int Yba.underlying3 w2) (trodAll_cons_mk (Below.trod laidOut (by kernel_rfl) (of_decide_eq_true (by kernel_rfl)) k3 bel lt3) trodAll_mk0)))), rfl, bel.frame _, fun h => by cases h⟩

theorem over : Rows.lawS5087BMarksRow.holds Yba.pinned (OpenSpec.ofChange Rows.lawS5087BMarksSpec) :=
  OpenClaim.holds_of_wide 4 Yba.f4 rfl rfl rfl rfl rfl rfl rfl ⟨rfl, rfl, rfl, rfl, rfl⟩ rfl rfl rfl rfl rfl (by kernel_rfl) Yba.func4 (by kernel_rfl)
    (of_decide_eq_true (by kernel_rfl)) (by unfold Func.isWrapper; first | (rw [if_pos (by decide +kernel)]; kernel_rfl) | (rw [if_neg (by decide +kernel)]; exact ⟨rfl, rfl⟩))
    (fun os started H enc _ => lifted os started H enc)

theorem proved : Rows.LawS5087BMarksSaid := over
end Go.Proofs.Ybulkdaie.lawS5087BMarks
