/-
  The script's keys; newChecker.
-/
import Derived.Test.YbulkdaieS26
namespace Go.Proofs.Ybulkdaie.Scr
open Go.RowKit Go.Maps
set_option linter.unusedVariables false
set_option linter.unusedSimpArgs false

def keyA (k : Nat) : Value := .agg #[.string (nodeS (k / 18)), .int .u64 ((k / 6 % 3 : Nat) : Int), .int .u64 ((k % 6 : Nat) : Int)]
def keyO (k : Nat) : Value := .agg #[.string (nodeS (k / 3)), .string (opS (k % 3))]
def keyN (k : Nat) : Value := .string (nodeS k)
set_option maxRecDepth 100000 in
theorem allA : (List.range 54).all (fun k => (keyOf Yba.prog 46 (keyA k)).isSome) = true := by kernel_rfl
set_option maxRecDepth 100000 in
theorem allO : (List.range 9).all (fun k => (keyOf Yba.prog 48 (keyO k)).isSome) = true := by kernel_rfl
set_option maxRecDepth 100000 in
theorem allN : (List.range 3).all (fun k => (keyOf Yba.prog 9 (keyN k)).isSome) = true := by kernel_rfl
theorem opt_get {α : Type} (o : Option α) (d : α) (h : o.isSome = true) : o = some (o.getD d) := by
  cases o with
  | none => cases h
  | some x => rfl
theorem exA : ∃ lt : Nat → Lit, ∀ k, k < 54 → keyOf Yba.prog 46 (keyA k) = some (lt k) := ⟨fun k => (keyOf Yba.prog 46 (keyA k)).getD (.int .i64 0), fun k h => by
  exact opt_get _ _ (List.all_eq_true.1 allA k (List.mem_range.2 h))⟩
theorem exO : ∃ lt : Nat → Lit, ∀ k, k < 9 → keyOf Yba.prog 48 (keyO k) = some (lt k) := ⟨fun k => (keyOf Yba.prog 48 (keyO k)).getD (.int .i64 0), fun k h => by
  exact opt_get _ _ (List.all_eq_true.1 allO k (List.mem_range.2 h))⟩
theorem exN : ∃ lt : Nat → Lit, ∀ k, k < 3 → keyOf Yba.prog 9 (keyN k) = some (lt k) := ⟨fun k => (keyOf Yba.prog 9 (keyN k)).getD (.int .i64 0), fun k h => by
  exact opt_get _ _ (List.all_eq_true.1 allN k (List.mem_range.2 h))⟩

theorem nodeS_mod (x : Nat) : nodeS (x % 3) = nodeS x := by unfold nodeS; rw [Nat.mod_mod]
theorem opS_mod (x : Nat) : opS (x % 3) = opS x := by unfold opS; rw [Nat.mod_mod]
theorem nodeS_inj {x y : Nat} (h : nodeS x = nodeS y) : x % 3 = y % 3 := by
  have hx : x % 3 = 0 ∨ x % 3 = 1 ∨ x % 3 = 2 := by omega
  have hy : y % 3 = 0 ∨ y % 3 = 1 ∨ y % 3 = 2 := by omega
  unfold nodeS at h
  rcases hx with hx | hx | hx <;> rcases hy with hy | hy | hy <;> rw [hx, hy] at h <;> first | (rw [hx, hy]; done) | (exfalso; revert h; simp)
theorem opS_inj {x y : Nat} (h : opS x = opS y) : x % 3 = y % 3 := by
  have hx : x % 3 = 0 ∨ x % 3 = 1 ∨ x % 3 = 2 := by omega
  have hy : y % 3 = 0 ∨ y % 3 = 1 ∨ y % 3 = 2 := by omega
  unfold opS at h
  rcases hx with hx | hx | hx <;> rcases hy with hy | hy | hy <;> rw [hx, hy] at h <;> first | (rw [hx, hy]; done) | (exfalso; revert h; simp)

section
variable (xn xo xe xc : Nat → Nat) {ltA ltO ltN : Nat → Lit}
def κA (i : Nat) : Nat := xn i % 3 * 18 + xe i % 3 * 6 + xc i % 6
def κO (i : Nat) : Nat := xn i % 3 * 3 + xo i % 3
def κN (i : Nat) : Nat := xn i % 3
def psS (i : Nat) : Nat × Nat := (xe i % 3, xc i % 6)
theorem κA_lt (i : Nat) : κA xn xe xc i < 54 := by unfold κA; omega
theorem κO_lt (i : Nat) : κO xn xo i < 9 := by unfold κO; omega
theorem κN_lt (i : Nat) : κN xn i < 3 := by unfold κN; omega
theorem keyA_eq (i : Nat) : keyA (κA xn xe xc i) = .agg #[.string (nodeS (xn i)), .int .u64 ((xe i % 3 : Nat) : Int), .int .u64 ((xc i % 6 : Nat) : Int)] := by
  unfold keyA κA
  rw [show (xn i % 3 * 18 + xe i % 3 * 6 + xc i % 6) / 18 = xn i % 3 by omega, show (xn i % 3 * 18 + xe i % 3 * 6 + xc i % 6) / 6 % 3 = xe i % 3 by omega, show (xn i % 3 * 18 + xe i % 3 * 6 + xc i % 6) % 6 = xc i % 6 by omega, nodeS_mod]
theorem keyO_eq (i : Nat) : keyO (κO xn xo i) = .agg #[.string (nodeS (xn i)), .string (opS (xo i))] := by
  unfold keyO κO
  rw [show (xn i % 3 * 3 + xo i % 3) / 3 = xn i % 3 by omega, show (xn i % 3 * 3 + xo i % 3) % 3 = xo i % 3 by omega, nodeS_mod, opS_mod]
theorem keyN_eq (i : Nat) : keyN (κN xn i) = .string (nodeS (xn i)) := by
  unfold keyN κN
  rw [nodeS_mod]
theorem keyA_of (hA : ∀ k, k < 54 → keyOf Yba.prog 46 (keyA k) = some (ltA k)) (i : Nat) : keyOf Yba.prog 46 (.agg #[.string (nodeS (xn i)), .int .u64 ((xe i % 3 : Nat) : Int), .int .u64 ((xc i % 6 : Nat) : Int)]) = some (ltA (κA xn xe xc i)) := by
  rw [← keyA_eq xn xe xc]; exact hA _ (κA_lt xn xe xc i)
theorem keyO_of (hO : ∀ k, k < 9 → keyOf Yba.prog 48 (keyO k) = some (ltO k)) (i : Nat) : keyOf Yba.prog 48 (.agg #[.string (nodeS (xn i)), .string (opS (xo i))]) = some (ltO (κO xn xo i)) := by
  rw [← keyO_eq xn xo]; exact hO _ (κO_lt xn xo i)
theorem keyN_of (hN : ∀ k, k < 3 → keyOf Yba.prog 9 (keyN k) = some (ltN k)) (i : Nat) : keyOf Yba.prog 9 (.string (nodeS (xn i))) = some (ltN (κN xn i)) := by
  rw [← keyN_eq xn]; exact hN _ (κN_lt xn i)
theorem injA (hA : ∀ k, k < 54 → keyOf Yba.prog 46 (keyA k) = some (ltA k)) (i j : Nat) (h : ltA (κA xn xe xc i) = ltA (κA xn xe xc j)) : κA xn xe xc i = κA xn xe xc j := by
  have h1 := keyA_of xn xe xc hA i
  have h2 := keyA_of xn xe xc hA j
  rw [← h] at h2
  have h3 := law46.inj h1 h2
  simp only [Value.agg.injEq, Array.mk.injEq, List.cons.injEq, Value.string.injEq, Value.int.injEq, Int.natCast_inj, and_true, true_and] at h3
  have h4 := nodeS_inj h3.1
  unfold κA
  omega
theorem injO (hO : ∀ k, k < 9 → keyOf Yba.prog 48 (keyO k) = some (ltO k)) (i j : Nat) (h : ltO (κO xn xo i) = ltO (κO xn xo j)) : κO xn xo i = κO xn xo j := by
  have h1 := keyO_of xn xo hO i
  have h2 := keyO_of xn xo hO j
  rw [← h] at h2
  have h3 := law48.inj h1 h2
  simp only [Value.agg.injEq, Array.mk.injEq, List.cons.injEq, Value.string.injEq, and_true] at h3
  have h4 := nodeS_inj h3.1
  have h5 := opS_inj h3.2
  unfold κO
  omega
theorem injN (hN : ∀ k, k < 3 → keyOf Yba.prog 9 (keyN k) = some (ltN k)) (i j : Nat) (h : ltN (κN xn i) = ltN (κN xn j)) : κN xn i = κN xn j := by
  have h1 := keyN_of xn hN i
  have h2 := keyN_of xn hN j
  rw [← h] at h2
  have h3 := law9.inj h1 h2
  simp only [Value.string.injEq] at h3
  exact nodeS_inj h3
end

theorem newChecker_any (w : World) : Calls Yba.prog 5 #[.pointer none, .int .i64 0] w fun r w' => r = .returned (.pointer (some ⟨w.heap.size + 4, 0, none⟩)) ∧ w' = ((((w.alloc (.map #[] 0)).alloc (.map #[] 0)).alloc (.map #[] 0)).alloc (.map #[] 0)).alloc (.cells (ckCells w.heap.size (w.heap.size + 1) (w.heap.size + 2) (w.heap.size + 3)).toArray 56) := by
  have hmm := @run_makeMap Yba.prog
  go_enter Yba.func5, Yba.ntmps5
  go_wp2_with fail
  go_ret
  exact ⟨rfl, rfl⟩
end Go.Proofs.Ybulkdaie.Scr
