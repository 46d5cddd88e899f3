/-
  The small functions on positions and spans.
-/
import Derived.Test.YbulkdaieKit
import Derived.Deep.LoopGhost
import Derived.Deep.DeepCutAuto
namespace Go.Proofs.Ybulkdaie.Scr
open Go.RowKit
set_option linter.unusedVariables false
set_option linter.unusedSimpArgs false

/-- Which of two numbers is the greater. -/
def cmpN (a b : Nat) : Int := if a < b then -1 else if b < a then 1 else 0

theorem isNaN_any (a : Nat) (w : World) : Calls Yba.prog 33 #[.int .u64 (a : Int)] w fun e w' => e = .returned (.bool false) ∧ w' = w := by
  go_enter Yba.func33, Yba.ntmps33
  go_wp2
  go_ret
  exact ⟨by simp, rfl⟩

theorem cmp_any (a b : Nat) (w : World) : Calls Yba.prog 24 #[.int .u64 (a : Int), .int .u64 (b : Int)] w fun e w' => e = .returned (.int .i64 (cmpN a b)) ∧ w' = w := by
  by_cases h1 : a < b
  · have h1i : (a : Int) < (b : Int) := by omega
    go_enter Yba.func24, Yba.ntmps24
    go_wp2_with (go_at_call 33; refine (isNaN_any _ _).mono ?_; rintro e w2 ⟨rfl, hw⟩; rw [hw]; clear hw w2)
    go_ret
    exact ⟨by simp [cmpN, h1], rfl⟩
  · by_cases h2 : b < a
    · have h1i : ¬ (a : Int) < (b : Int) := by omega
      have h2i : (b : Int) < (a : Int) := by omega
      go_enter Yba.func24, Yba.ntmps24
      go_wp2_with (go_at_call 33; refine (isNaN_any _ _).mono ?_; rintro e w2 ⟨rfl, hw⟩; rw [hw]; clear hw w2)
      go_ret
      exact ⟨by simp [cmpN, h1, h2], rfl⟩
    · have h1i : ¬ (a : Int) < (b : Int) := by omega
      have h2i : ¬ (b : Int) < (a : Int) := by omega
      go_enter Yba.func24, Yba.ntmps24
      go_wp2_with (go_at_call 33; refine (isNaN_any _ _).mono ?_; rintro e w2 ⟨rfl, hw⟩; rw [hw]; clear hw w2)
      go_ret
      exact ⟨by simp [cmpN, h1, h2], rfl⟩

/-- Pos.Compare. -/
def cmpP (e c e' c' : Nat) : Int := if cmpN e e' ≠ 0 then cmpN e e' else cmpN c c'

theorem cmpN_range (a b : Nat) : cmpN a b = -1 ∨ cmpN a b = 0 ∨ cmpN a b = 1 := by
  unfold cmpN
  split
  · exact .inl rfl
  · split
    · exact .inr (.inr rfl)
    · exact .inr (.inl rfl)

def pos (e c : Nat) : Value := .agg #[.int .u64 (e : Int), .int .u64 (c : Int)]
def spn (e lo hi : Nat) : Value := .agg #[.int .u64 (e : Int), .int .u64 (lo : Int), .int .u64 (hi : Int)]

theorem compare_any (e c e' c' : Nat) (w : World) : Calls Yba.prog 17 #[pos e c, pos e' c'] w fun r w' => r = .returned (.int .i64 (cmpP e c e' c')) ∧ Below w.heap.size w w' := by
  unfold pos
  by_cases h : cmpN e e' = 0
  · have hne : (cmpN e e' != 0) = false := by simp [h]
    have e1 : cmpP e c e' c' = cmpN c c' := by simp [cmpP, h]
    rw [e1]
    go_enter Yba.func17, Yba.ntmps17
    go_wp2_with (go_at_call 24; refine (cmp_any _ _ _).mono ?_; rintro r w2 ⟨rfl, hw⟩; rw [hw]; clear hw w2)
    go_ret
    exact ⟨rfl, ((Below.refl _ _).alloc (Nat.le_refl _) _).alloc (by simp) _⟩
  · have hne : (cmpN e e' != 0) = true := by simp [h]
    have e1 : cmpP e c e' c' = cmpN e e' := by simp [cmpP, h]
    rw [e1]
    go_enter Yba.func17, Yba.ntmps17
    go_wp2_with (go_at_call 24; refine (cmp_any _ _ _).mono ?_; rintro r w2 ⟨rfl, hw⟩; rw [hw]; clear hw w2)
    go_ret
    exact ⟨rfl, ((Below.refl _ _).alloc (Nat.le_refl _) _).alloc (by simp) _⟩

theorem spanLast_any (e lo hi : Nat) (w : World) : Calls Yba.prog 16 #[spn e lo hi] w fun r w' => r = .returned (pos e hi) ∧ Below w.heap.size w w' := by
  unfold spn pos
  go_enter Yba.func16, Yba.ntmps16
  go_wp2
  refine bodyPost_ret (results_cell_row (P := Yba.prog) rfl _ _ (w.heap.size + 1) 32 _ (0, 0) _ rfl (heap_alloc2_new _ _ _) Yba.underlying32 rfl (by kernel_rfl)) rfl ?_
  exact ⟨rfl, ((Below.refl _ _).alloc (Nat.le_refl _) _).alloc (by simp) _⟩

/-- span.has. -/
def hasP (e lo hi e' c' : Nat) : Bool := decide (e' = e ∧ lo ≤ c' ∧ c' ≤ hi)

theorem has_any (e lo hi e' c' : Nat) (w : World) : Calls Yba.prog 21 #[spn e lo hi, pos e' c'] w fun r w' => r = .returned (.bool (hasP e lo hi e' c')) ∧ Below w.heap.size w w' := by
  unfold spn pos hasP
  by_cases h1 : e' = e
  · subst h1
    have h1b : ((e' : Int) == (e' : Int)) = true := by simp
    by_cases h2 : lo ≤ c'
    · have h2b : (lo : Int) ≤ (c' : Int) := by omega
      by_cases h3 : c' ≤ hi
      · have h3b : (c' : Int) ≤ (hi : Int) := by omega
        go_enter Yba.func21, Yba.ntmps21
        go_wp2
        go_ret
        exact ⟨by simp [h2, h3], ((Below.refl _ _).alloc (Nat.le_refl _) _).alloc (by simp) _⟩
      · have h3b : ¬ (c' : Int) ≤ (hi : Int) := by omega
        go_enter Yba.func21, Yba.ntmps21
        go_wp2
        go_ret
        exact ⟨by simp [h2, h3], ((Below.refl _ _).alloc (Nat.le_refl _) _).alloc (by simp) _⟩
    · have h2b : ¬ (lo : Int) ≤ (c' : Int) := by omega
      go_enter Yba.func21, Yba.ntmps21
      go_wp2
      go_ret
      exact ⟨by simp [h2], ((Below.refl _ _).alloc (Nat.le_refl _) _).alloc (by simp) _⟩
  · have h1b : ((e' : Int) == (e : Int)) = false := by simp; omega
    go_enter Yba.func21, Yba.ntmps21
    go_wp2
    go_ret
    exact ⟨by simp [h1], ((Below.refl _ _).alloc (Nat.le_refl _) _).alloc (by simp) _⟩

def nodeS (x : Nat) : ByteArray := if x % 3 = 0 then ⟨#[97]⟩ else if x % 3 = 1 then ⟨#[98]⟩ else ⟨#[]⟩

def opS (x : Nat) : ByteArray := if x % 3 = 0 then ⟨#[114, 49]⟩ else if x % 3 = 1 then ⟨#[114, 50]⟩ else ⟨#[119]⟩

theorem node_any (x : Nat) (w : World) (hx : x ≤ 255) : Calls Yba.prog 6 #[.int .u8 (x : Int)] w fun r w' => r = .returned (.string (nodeS x)) ∧ w' = w := by
  have hm : x % 3 = 0 ∨ x % 3 = 1 ∨ x % 3 = 2 := by omega
  rcases hm with hm | hm | hm
  · have h0 : ((x : Int) % 3 == 0) = true := by simp; omega
    go_enter Yba.func6, Yba.ntmps6
    go_wp2
    go_ret
    exact ⟨by simp [nodeS, hm], rfl⟩
  · have h0 : ((x : Int) % 3 == 0) = false := by simp; omega
    have h1 : ((x : Int) % 3 == 1) = true := by simp; omega
    go_enter Yba.func6, Yba.ntmps6
    go_wp2
    go_ret
    exact ⟨by simp [nodeS, hm], rfl⟩
  · have h0 : ((x : Int) % 3 == 0) = false := by simp; omega
    have h1 : ((x : Int) % 3 == 1) = false := by simp; omega
    go_enter Yba.func6, Yba.ntmps6
    go_wp2
    go_ret
    exact ⟨by simp [nodeS, hm], rfl⟩
theorem op_any (x : Nat) (w : World) (hx : x ≤ 255) : Calls Yba.prog 7 #[.int .u8 (x : Int)] w fun r w' => r = .returned (.string (opS x)) ∧ w' = w := by
  have hm : x % 3 = 0 ∨ x % 3 = 1 ∨ x % 3 = 2 := by omega
  rcases hm with hm | hm | hm
  · have h0 : ((x : Int) % 3 == 0) = true := by simp; omega
    go_enter Yba.func7, Yba.ntmps7
    go_wp2
    go_ret
    exact ⟨by simp [opS, hm], rfl⟩
  · have h0 : ((x : Int) % 3 == 0) = false := by simp; omega
    have h1 : ((x : Int) % 3 == 1) = true := by simp; omega
    go_enter Yba.func7, Yba.ntmps7
    go_wp2
    go_ret
    exact ⟨by simp [opS, hm], rfl⟩
  · have h0 : ((x : Int) % 3 == 0) = false := by simp; omega
    have h1 : ((x : Int) % 3 == 1) = false := by simp; omega
    go_enter Yba.func7, Yba.ntmps7
    go_wp2
    go_ret
    exact ⟨by simp [opS, hm], rfl⟩
theorem isZero_any (loc : Value) (w : World) : Calls Yba.prog 9 #[.agg #[.int .u64 0, .int .i64 0, loc]] w fun r w' => r = .returned (.bool true) ∧ Below w.heap.size w w' := by
  go_enter Yba.func9, Yba.ntmps9
  go_wp2
  go_ret
  exact ⟨rfl, ((Below.refl _ _).alloc (Nat.le_refl _) _)⟩

end Go.Proofs.Ybulkdaie.Scr
