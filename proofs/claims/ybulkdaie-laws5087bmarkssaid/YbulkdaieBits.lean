/-
  Plain lists of bits and the words that hold them, 64 a word. No Go.
-/
import Derived.Test.YbulkdaiePop
namespace Go.Proofs.Ybulkdaie
open Pop
set_option linter.unusedVariables false

/-- The number that bits spell, the least first. -/
def wl : List Bool → Nat
  | [] => 0
  | b :: l => b.toNat + 2 * wl l

/-- The i-th word of 64 bits. -/
def wd (bs : List Bool) (i : Nat) : Nat := wl ((bs.drop (64 * i)).take 64)

theorem wl_lt : ∀ l, wl l < 2 ^ l.length
  | [] => by simp [wl]
  | b :: l => by
    have := wl_lt l
    have hb : b.toNat ≤ 1 := by cases b <;> decide
    simp only [wl, List.length_cons, Nat.pow_succ]; omega

theorem wl_append : ∀ l m, wl (l ++ m) = wl l + 2 ^ l.length * wl m
  | [], m => by simp [wl]
  | b :: l, m => by
    simp only [wl, List.cons_append, List.length_cons, Nat.pow_succ, wl_append l m]
    rw [Nat.mul_comm (2 ^ l.length) 2, Nat.mul_assoc]; omega

theorem wl_false : ∀ n, wl (List.replicate n false) = 0
  | 0 => rfl
  | n + 1 => by simp [List.replicate_succ, wl, wl_false n]

theorem wl_mod (l : List Bool) (m : Nat) : wl l % 2 ^ m = wl (l.take m) := by
  have h := wl_append (l.take m) (l.drop m)
  rw [List.take_append_drop] at h
  have hl := wl_lt (l.take m)
  rw [List.length_take] at h hl
  rcases Nat.le_total m l.length with hm | hm
  · rw [Nat.min_eq_left hm] at h hl
    rw [h, Nat.add_mul_mod_self_left, Nat.mod_eq_of_lt hl]
  · rw [List.take_of_length_le hm]
    exact Nat.mod_eq_of_lt (Nat.lt_of_lt_of_le (wl_lt l) (Nat.pow_le_pow_right (by omega) hm))

theorem pc_wl : ∀ f l, l.length ≤ f → pc f (wl l) = l.count true
  | 0, l, h => by
    have : l = [] := List.eq_nil_of_length_eq_zero (by omega)
    subst this; rfl
  | f + 1, [], h => by
    have := pc_wl f [] (by simp)
    simp only [wl] at this
    simp [pc, wl, this]
  | f + 1, b :: l, h => by
    have hb : b.toNat ≤ 1 := by cases b <;> decide
    simp only [List.length_cons] at h
    simp only [pc, wl]
    rw [show (b.toNat + 2 * wl l) % 2 = b.toNat by omega, show (b.toNat + 2 * wl l) / 2 = wl l by omega, pc_wl f l (by omega)]
    cases b <;> simp <;> omega

theorem wd_lt (bs : List Bool) (i : Nat) : wd bs i < 18446744073709551616 := by
  have h := wl_lt ((bs.drop (64 * i)).take 64)
  have h2 : ((bs.drop (64 * i)).take 64).length ≤ 64 := by simp [List.length_take]; omega
  exact Nat.lt_of_lt_of_le h (Nat.le_trans (Nat.pow_le_pow_right (by omega) h2) (by decide))

theorem wd_zero (bs : List Bool) (i : Nat) (h : bs.length ≤ 64 * i) : wd bs i = 0 := by
  simp [wd, List.drop_eq_nil_of_le h, wl]

theorem wd_snoc (bs : List Bool) (b : Bool) (i : Nat) : wd (bs ++ [b]) i = if i = bs.length / 64 then wd bs i + 2 ^ (bs.length % 64) * b.toNat else wd bs i := by
  unfold wd
  rw [List.drop_append]
  by_cases h1 : bs.length < 64 * i
  · rw [if_neg (by omega), List.drop_eq_nil_of_le (Nat.le_of_lt h1)]
    have : [b].drop (64 * i - bs.length) = [] := List.drop_eq_nil_of_le (by simp; omega)
    rw [this]; rfl
  · rw [show 64 * i - bs.length = 0 by omega, List.drop_zero, List.take_append]
    have hl : (bs.drop (64 * i)).length = bs.length - 64 * i := List.length_drop
    by_cases h2 : bs.length - 64 * i < 64
    · rw [if_pos (by omega), wl_append, List.length_take, hl, Nat.min_eq_right (by omega), show bs.length - 64 * i = bs.length % 64 by omega]
      have e : wl ([b].take (64 - bs.length % 64)) = b.toNat := by
        rw [List.take_of_length_le (by simp; omega)]; simp [wl]
      rw [e]
    · rw [if_neg (by omega), hl, show 64 - (bs.length - 64 * i) = 0 by omega]
      simp

theorem wd_snoc_false (bs : List Bool) (i : Nat) : wd (bs ++ [false]) i = wd bs i := by
  rw [wd_snoc]; split <;> simp

theorem wd_falses : ∀ (n : Nat) (bs : List Bool) (i : Nat), wd (bs ++ List.replicate n false) i = wd bs i
  | 0, bs, i => by simp
  | n + 1, bs, i => by
    rw [List.replicate_succ, show bs ++ false :: List.replicate n false = (bs ++ [false]) ++ List.replicate n false by simp, wd_falses n, wd_snoc_false]

theorem wd_or (bs : List Bool) : wd bs (bs.length / 64) ||| 2 ^ (bs.length % 64) = wd bs (bs.length / 64) + 2 ^ (bs.length % 64) := by
  have h := wl_lt ((bs.drop (64 * (bs.length / 64))).take 64)
  rw [List.length_take, List.length_drop, Nat.min_eq_right (by omega), show bs.length - 64 * (bs.length / 64) = bs.length % 64 by omega] at h
  have := Nat.two_pow_add_eq_or_of_lt h 1
  rw [Nat.mul_one] at this
  unfold wd
  rw [Nat.or_comm, ← this, Nat.add_comm]

/-- What markOf sums: the words below, and the word's own low bits. -/
def sumTo (bs : List Bool) : Nat → Nat
  | 0 => 0
  | q + 1 => sumTo bs q + pc 64 (wd bs q)

theorem sumTo_eq (bs : List Bool) : ∀ q, sumTo bs q = (bs.take (64 * q)).count true
  | 0 => by simp [sumTo]
  | q + 1 => by
    have e : bs.take (64 * (q + 1)) = bs.take (64 * q) ++ (bs.drop (64 * q)).take 64 := by
      rw [show 64 * (q + 1) = 64 * q + 64 by omega, List.take_add]
    rw [sumTo, sumTo_eq bs q, e, List.count_append]
    unfold wd
    rw [pc_wl 64 _ (by simp [List.length_take]; omega)]

theorem mask_eq (bs : List Bool) (k : Nat) : pc 64 (wd bs (k / 64) &&& (2 ^ (k % 64 + 1) - 1)) + sumTo bs (k / 64) = (bs.take (k + 1)).count true := by
  rw [Nat.and_two_pow_sub_one_eq_mod, sumTo_eq]
  unfold wd
  rw [wl_mod, pc_wl 64 _ (by simp [List.length_take]; omega), List.take_take, Nat.min_eq_left (by omega)]
  have e : bs.take (k + 1) = bs.take (64 * (k / 64)) ++ (bs.drop (64 * (k / 64))).take (k % 64 + 1) := by
    rw [← List.take_add]; congr 1; omega
  rw [e, List.count_append]; omega

theorem sumTo_le (bs : List Bool) (q : Nat) : sumTo bs q ≤ 64 * q := by
  rw [sumTo_eq]
  exact Nat.le_trans List.count_le_length (by simp [List.length_take]; omega)

end Go.Proofs.Ybulkdaie
