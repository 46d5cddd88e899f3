/-
  The search.
-/
import Derived.Test.YbulkdaieS2
import Derived.Deep.RegionHeld3
namespace Go.Proofs.Ybulkdaie.Scr
open Go.RowKit
set_option linter.unusedVariables false
set_option linter.unusedSimpArgs false

theorem bounds_any (e lo hi : Nat) (w : World) : Calls Yba.prog 73 #[spn e lo hi] w fun r w' => r = .returned (spn e lo hi) ∧ Below w.heap.size w w' := by
  unfold spn
  go_enter Yba.func73, Yba.ntmps73
  go_wp2
  refine bodyPost_ret (results_cell_row (P := Yba.prog) rfl _ _ (w.heap.size + 1) 67 _ (0, 0) _ rfl (heap_alloc2_new _ _ _) Yba.underlying67 rfl (by kernel_rfl)) rfl ?_
  exact ⟨rfl, ((Below.refl _ _).alloc (Nat.le_refl _) _).alloc (by simp) _⟩

theorem bcell {W w1 : World} (hb : Below W.heap.size W w1) : (∀ b o, b < W.heap.size → w1.cell? ⟨b, o, none⟩ = W.cell? ⟨b, o, none⟩) ∧ (∀ b o, b < W.heap.size → w1.frozen? ⟨b, o, none⟩ = W.frozen? ⟨b, o, none⟩) :=
  ⟨fun b o h => World.cell?_of_block (a := ⟨b, o, none⟩) (hb.block b h), fun b o h => World.frozen?_of_block (a := ⟨b, o, none⟩) (hb.block b h)⟩

theorem kstep {B : Nat} {w W w2 : World} (h : Below B w W) (hb : Below W.heap.size W w2) (hB : B ≤ W.heap.size) : Below B w w2 := h.trans (hb.mono hB)

def sl : String := String.singleton (Char.ofNat 47)
theorem meth_bounds (e lo hi : Nat) (w : World) : (method 261 67 (.agg #[.int .u64 (e : Int), .int .u64 (lo : Int), .int .u64 (hi : Int)]) ("ex" ++ "ample.com" ++ sl ++ "quorumlens" ++ sl ++ "quorumlens" ++ sl ++ "rule" ++ sl ++ "logstate.bounds")).run Yba.prog w = .ok (73, .agg #[.int .u64 (e : Int), .int .u64 (lo : Int), .int .u64 (hi : Int)]) w := by kernel_rfl

set_option maxRecDepth 100000 in
theorem find2_any (e lo hi e' c' : Nat) (w : World) : Calls Yba.prog 30 #[spn e lo hi, pos e' c'] w fun r w' => r = .returned (.int .i64 (cmpP e hi e' c')) ∧ Below w.heap.size w w' := by
  have hmeth := fun wx => meth_bounds e lo hi wx
  simp only [sl, String.reduceSingleton, String.reduceAppend] at hmeth

  unfold spn pos
  go_enter Yba.func30, Yba.ntmps30
  go_wp2_with fail
  go_region_held3 (fun w' => Below w.heap.size w w' ∧ w.heap.size + 1 < w'.heap.size ∧ w'.cell? ⟨w.heap.size, 0, none⟩ = some (.int .u64 (e : Int)) ∧ w'.cell? ⟨w.heap.size, 1, none⟩ = some (.int .u64 (lo : Int)) ∧ w'.cell? ⟨w.heap.size, 2, none⟩ = some (.int .u64 (hi : Int)) ∧ w'.cell? ⟨w.heap.size + 1, 0, none⟩ = some (.int .u64 (e' : Int)) ∧ w'.cell? ⟨w.heap.size + 1, 1, none⟩ = some (.int .u64 (c' : Int)))
    (first | (refine ⟨(((Below.refl _ _).alloc (Nat.le_refl _) _).alloc (by simp) _).drew, ?_⟩; go_keep) | (go_split_ands; have hk1 := (bcell hb2).1; have hz := hb2.size; refine ⟨kstep ‹_› hb2 (by omega), by omega, ?_, ?_, ?_, ?_, ?_⟩ <;> (rw [hk1 _ _ (by omega)]; assumption)))
    (first
    | (go_at_call 16; refine (spanLast_any e lo hi _).mono ?_; unfold pos; rintro r w2 ⟨rfl, hb2⟩)
    | (go_at_call 17; refine (compare_any e hi e' c' _).mono ?_; rintro r w2 ⟨rfl, hb2⟩)
    | (go_at_call 73; refine (bounds_any e lo hi _).mono ?_; unfold spn; rintro r w2 ⟨rfl, hb2⟩))
  go_split_ands
  go_wp2
  go_ret
  exact ⟨rfl, ‹_›⟩
end Go.Proofs.Ybulkdaie.Scr
