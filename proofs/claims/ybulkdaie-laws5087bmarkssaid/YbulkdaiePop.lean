/-
  Plain arithmetic, no Go: the sum of the bits of a number below 2^64 as math/bits.OnesCount64 reckons it.
-/
import Derived.KernelRfl
namespace Go.Proofs.Ybulkdaie.Pop
set_option linter.unusedVariables false

/-- The number of bits that are set among the first f. -/
def pc : Nat → Nat → Nat
  | 0, _ => 0
  | f + 1, x => x % 2 + pc f (x / 2)

theorem pc_le : ∀ f x, pc f x ≤ f
  | 0, _ => Nat.le_refl _
  | f + 1, x => by have := pc_le f (x / 2); simp only [pc]; omega

theorem pc_cat : ∀ k f b x, b < 2 ^ k → pc (k + f) (b + 2 ^ k * x) = pc k b + pc f x
  | 0, f, b, x, h => by
    have : b = 0 := by simpa using h
    subst this; simp [pc]
  | k + 1, f, b, x, h => by
    have e1 : (b + 2 ^ (k + 1) * x) % 2 = b % 2 := by rw [Nat.pow_succ, Nat.mul_comm (2 ^ k) 2, Nat.mul_assoc]; omega
    have e2 : (b + 2 ^ (k + 1) * x) / 2 = b / 2 + 2 ^ k * x := by rw [Nat.pow_succ, Nat.mul_comm (2 ^ k) 2, Nat.mul_assoc]; omega
    have hb : b / 2 < 2 ^ k := by rw [Nat.pow_succ] at h; omega
    rw [show k + 1 + f = (k + f) + 1 by omega]
    simp only [pc]
    rw [e1, e2, pc_cat k f (b / 2) x hb]; omega

theorem and_cat (b x c y : Nat) (hb : b < 256) (hc : c < 256) : (b + 256 * x) &&& (c + 256 * y) = (b &&& c) + 256 * (x &&& y) := by
  have h1 : ((b + 256 * x) &&& (c + 256 * y)) % 2 ^ 8 = (b &&& c) := by
    rw [Nat.and_mod_two_pow]
    rw [show (b + 256 * x) % 2 ^ 8 = b by omega, show (c + 256 * y) % 2 ^ 8 = c by omega]
  have h2 : ((b + 256 * x) &&& (c + 256 * y)) / 2 ^ 8 = (x &&& y) := by
    rw [Nat.and_div_two_pow]
    rw [show (b + 256 * x) / 2 ^ 8 = x by omega, show (c + 256 * y) / 2 ^ 8 = y by omega]
  have h3 := Nat.div_add_mod ((b + 256 * x) &&& (c + 256 * y)) (2 ^ 8)
  rw [h1, h2] at h3
  omega

def stA (m x : Nat) : Nat := (x / 2 &&& m) + (x &&& m)
def stB (m x : Nat) : Nat := (x / 4 &&& m) + (x &&& m)
def stC (m x : Nat) : Nat := (x / 16 + x) &&& m

set_option maxRecDepth 100000 in
theorem kA : ∀ b, b < 256 → ∀ e, e < 2 → (b / 2 + 128 * e &&& 85) = (b / 2 &&& 85) := by decide
set_option maxRecDepth 100000 in
theorem kB : ∀ b, b < 256 → ∀ e, e < 4 → (b / 4 + 64 * e &&& 51) = (b / 4 &&& 51) := by decide
set_option maxRecDepth 100000 in
theorem kN : ∀ b, b < 256 → stA 85 b < 256 ∧ stB 51 (stA 85 b) < 256 ∧ stB 51 (stA 85 b) / 16 ≤ 4 ∧ stB 51 (stA 85 b) % 16 ≤ 4 ∧ stB 51 (stA 85 b) / 16 + stB 51 (stA 85 b) % 16 = pc 8 b := by decide

theorem stA_cat (m b x : Nat) (hb : b < 256) : stA (85 + 256 * m) (b + 256 * x) = stA 85 b + 256 * stA m x := by
  unfold stA
  rw [show (b + 256 * x) / 2 = (b / 2 + 128 * (x % 2)) + 256 * (x / 2) by omega, and_cat _ _ _ _ (by omega) (by omega), and_cat _ _ _ _ hb (by omega), kA b hb (x % 2) (by omega)]
  omega
theorem stB_cat (m b x : Nat) (hb : b < 256) : stB (51 + 256 * m) (b + 256 * x) = stB 51 b + 256 * stB m x := by
  unfold stB
  rw [show (b + 256 * x) / 4 = (b / 4 + 64 * (x % 4)) + 256 * (x / 4) by omega, and_cat _ _ _ _ (by omega) (by omega), and_cat _ _ _ _ hb (by omega), kB b hb (x % 4) (by omega)]
  omega
theorem stC_cat (m b x : Nat) (hb : b / 16 ≤ 4) (hb' : b % 16 ≤ 4) (hx : x % 16 ≤ 4) : stC (15 + 256 * m) (b + 256 * x) = (b / 16 + b % 16) + 256 * stC m x := by
  unfold stC
  rw [show (b + 256 * x) / 16 + (b + 256 * x) = (b / 16 + b + 16 * (x % 16)) + 256 * (x / 16 + x) by omega, and_cat _ _ _ _ (by omega) (by omega)]
  rw [show (b / 16 + b + 16 * (x % 16) &&& 15) = (b / 16 + b + 16 * (x % 16)) % 16 from Nat.and_two_pow_sub_one_eq_mod _ 4]
  omega

def up (d y : Nat) : Nat := y + y / d
def swar (x : Nat) : Nat := up 4294967296 (up 65536 (up 256 (stC 1085102592571150095 (stB 3689348814741910323 (stA 6148914691236517205 x))))) % 128

/-- The number that bytes spell, the least first. -/
def val : List Nat → Nat
  | [] => 0
  | b :: l => b + 256 * val l

theorem stA_val : ∀ l : List Nat, (∀ b ∈ l, b < 256) → stA (val (l.map fun _ => 85)) (val l) = val (l.map (stA 85))
  | [], _ => by simp [val, stA]
  | b :: l, h => by
    simp only [val, List.map_cons]
    rw [stA_cat _ _ _ (h b (by simp)), stA_val l (fun c hc => h c (by simp [hc]))]
theorem stB_val : ∀ l : List Nat, (∀ b ∈ l, b < 256) → stB (val (l.map fun _ => 51)) (val l) = val (l.map (stB 51))
  | [], _ => by simp [val, stB]
  | b :: l, h => by
    simp only [val, List.map_cons]
    rw [stB_cat _ _ _ (h b (by simp)), stB_val l (fun c hc => h c (by simp [hc]))]
theorem val_mod : ∀ l : List Nat, (∀ b ∈ l, b % 16 ≤ 4) → val l % 16 ≤ 4
  | [], _ => by simp [val]
  | b :: l, h => by have := h b (by simp); simp only [val]; omega
theorem stC_val : ∀ l : List Nat, (∀ b ∈ l, b / 16 ≤ 4 ∧ b % 16 ≤ 4) → stC (val (l.map fun _ => 15)) (val l) = val (l.map fun b => b / 16 + b % 16)
  | [], _ => by simp [val, stC]
  | b :: l, h => by
    have hb := h b (by simp)
    have hl := val_mod l (fun c hc => (h c (by simp [hc])).2)
    simp only [val, List.map_cons]
    rw [stC_cat _ _ _ hb.1 hb.2 hl, stC_val l (fun c hc => h c (by simp [hc]))]
theorem pc_val : ∀ l : List Nat, (∀ b ∈ l, b < 256) → pc (8 * l.length) (val l) = (l.map (pc 8)).sum
  | [], _ => by simp [pc]
  | b :: l, h => by
    have := pc_cat 8 (8 * l.length) b (val l) (h b (by simp))
    simp only [val, List.map_cons, List.sum_cons, List.length_cons]
    rw [show 8 * (l.length + 1) = 8 + 8 * l.length by omega, ← pc_val l (fun c hc => h c (by simp [hc])), ← this]

theorem last4 (c0 c1 c2 c3 c4 c5 c6 c7 : Nat) (h0 : c0 ≤ 8) (h1 : c1 ≤ 8) (h2 : c2 ≤ 8) (h3 : c3 ≤ 8) (h4 : c4 ≤ 8) (h5 : c5 ≤ 8) (h6 : c6 ≤ 8) (h7 : c7 ≤ 8) (y x4 : Nat)
    (hy : y = c0 + 256 * (c1 + 256 * (c2 + 256 * (c3 + 256 * (c4 + 256 * (c5 + 256 * (c6 + 256 * c7)))))))
    (e4 : x4 = y + y / 256) : x4 = (c0 + c1) + 256 * ((c1 + c2) + 256 * ((c2 + c3) + 256 * ((c3 + c4) + 256 * ((c4 + c5) + 256 * ((c5 + c6) + 256 * ((c6 + c7) + 256 * c7)))))) := by
  have : y / 256 = c1 + 256 * (c2 + 256 * (c3 + 256 * (c4 + 256 * (c5 + 256 * (c6 + 256 * c7))))) := by omega
  omega
theorem last5 (c0 c1 R y x5 : Nat) (h : c0 + 256 * c1 < 65536) (hy : y = c0 + 256 * (c1 + 256 * R)) (e5 : x5 = y + y / 65536) : x5 = c0 + 256 * c1 + 65536 * R + R := by
  have : y / 65536 = R := by omega
  omega
theorem last6 (A R y x6 : Nat) (h : A < 4294967296) (hy : y = A + 4294967296 * R) (e6 : x6 = y + y / 4294967296) : x6 = A + 4294967296 * R + R := by
  have : y / 4294967296 = R := by omega
  omega

theorem last (c0 c1 c2 c3 c4 c5 c6 c7 y x4 x5 x6 : Nat) (h0 : c0 ≤ 8) (h1 : c1 ≤ 8) (h2 : c2 ≤ 8) (h3 : c3 ≤ 8) (h4 : c4 ≤ 8) (h5 : c5 ≤ 8) (h6 : c6 ≤ 8) (h7 : c7 ≤ 8)
    (hy : y = c0 + 256 * (c1 + 256 * (c2 + 256 * (c3 + 256 * (c4 + 256 * (c5 + 256 * (c6 + 256 * c7)))))))
    (e4 : x4 = y + y / 256) (e5 : x5 = x4 + x4 / 65536) (e6 : x6 = x5 + x5 / 4294967296) : x6 % 128 = c0 + c1 + c2 + c3 + c4 + c5 + c6 + c7 := by
  have d4 := last4 c0 c1 c2 c3 c4 c5 c6 c7 h0 h1 h2 h3 h4 h5 h6 h7 y x4 hy e4
  have d5 := last5 (c0 + c1) (c1 + c2) ((c2 + c3) + 256 * ((c3 + c4) + 256 * ((c4 + c5) + 256 * ((c5 + c6) + 256 * ((c6 + c7) + 256 * c7))))) x4 x5 (by omega) d4 e5
  have d6 := last6 ((c0 + c1 + c2 + c3) + 256 * ((c1 + c2 + c3 + c4) + 256 * ((c2 + c3 + c4 + c5) + 256 * (c3 + c4 + c5 + c6)))) ((c4 + c5 + c6 + c7) + 256 * ((c5 + c6 + c7) + 256 * ((c6 + c7) + 256 * c7))) x5 x6 (by omega) (by rw [d5]; omega) e6
  clear d4 d5 hy e4 e5 e6
  omega

theorem last_up (c0 c1 c2 c3 c4 c5 c6 c7 y : Nat) (h0 : c0 ≤ 8) (h1 : c1 ≤ 8) (h2 : c2 ≤ 8) (h3 : c3 ≤ 8) (h4 : c4 ≤ 8) (h5 : c5 ≤ 8) (h6 : c6 ≤ 8) (h7 : c7 ≤ 8)
    (hy : y = c0 + 256 * (c1 + 256 * (c2 + 256 * (c3 + 256 * (c4 + 256 * (c5 + 256 * (c6 + 256 * c7))))))) : up 4294967296 (up 65536 (up 256 y)) % 128 = c0 + c1 + c2 + c3 + c4 + c5 + c6 + c7 := by
  obtain ⟨x4, e4⟩ : ∃ x4, x4 = up 256 y := ⟨_, rfl⟩
  rw [← e4]
  unfold up at e4
  obtain ⟨x5, e5⟩ : ∃ x5, x5 = up 65536 x4 := ⟨_, rfl⟩
  rw [← e5]
  unfold up at e5
  obtain ⟨x6, e6⟩ : ∃ x6, x6 = up 4294967296 x5 := ⟨_, rfl⟩
  rw [← e6]
  unfold up at e6
  exact last c0 c1 c2 c3 c4 c5 c6 c7 y x4 x5 x6 h0 h1 h2 h3 h4 h5 h6 h7 hy e4 e5 e6

theorem swar_eq (x : Nat) (hx : x < 18446744073709551616) : swar x = pc 64 x := by
  obtain ⟨b0, x0, h0, rfl⟩ : ∃ b y, b < 256 ∧ x = b + 256 * y := ⟨x % 256, x / 256, by omega, by omega⟩
  obtain ⟨b1, x1, h1, rfl⟩ : ∃ b y, b < 256 ∧ x0 = b + 256 * y := ⟨x0 % 256, x0 / 256, by omega, by omega⟩
  obtain ⟨b2, x2, h2, rfl⟩ : ∃ b y, b < 256 ∧ x1 = b + 256 * y := ⟨x1 % 256, x1 / 256, by omega, by omega⟩
  obtain ⟨b3, x3, h3, rfl⟩ : ∃ b y, b < 256 ∧ x2 = b + 256 * y := ⟨x2 % 256, x2 / 256, by omega, by omega⟩
  obtain ⟨b4, x4, h4, rfl⟩ : ∃ b y, b < 256 ∧ x3 = b + 256 * y := ⟨x3 % 256, x3 / 256, by omega, by omega⟩
  obtain ⟨b5, x5, h5, rfl⟩ : ∃ b y, b < 256 ∧ x4 = b + 256 * y := ⟨x4 % 256, x4 / 256, by omega, by omega⟩
  obtain ⟨b6, b7, h6, rfl⟩ : ∃ b y, b < 256 ∧ x5 = b + 256 * y := ⟨x5 % 256, x5 / 256, by omega, by omega⟩
  have h7 : b7 < 256 := by omega
  have hl : ∀ b ∈ [b0, b1, b2, b3, b4, b5, b6, b7], b < 256 := by
    intro b hb
    simp at hb
    rcases hb with rfl | rfl | rfl | rfl | rfl | rfl | rfl | rfl <;> assumption
  have e : b0 + 256 * (b1 + 256 * (b2 + 256 * (b3 + 256 * (b4 + 256 * (b5 + 256 * (b6 + 256 * b7)))))) = val [b0, b1, b2, b3, b4, b5, b6, b7] := rfl
  rw [e]
  have eA := stA_val _ hl
  rw [show val (List.map (fun _ => 85) [b0, b1, b2, b3, b4, b5, b6, b7]) = 6148914691236517205 by simp only [List.map_cons, List.map_nil]; decide] at eA
  have hl2 : ∀ b ∈ [b0, b1, b2, b3, b4, b5, b6, b7].map (stA 85), b < 256 := by
    intro b hb
    obtain ⟨c, hc, rfl⟩ := List.mem_map.1 hb
    exact (kN c (hl c hc)).1
  have eB := stB_val _ hl2
  rw [show val (List.map (fun _ => 51) ([b0, b1, b2, b3, b4, b5, b6, b7].map (stA 85))) = 3689348814741910323 by simp only [List.map_cons, List.map_nil]; decide] at eB
  rw [List.map_map] at eB
  have hl3 : ∀ b ∈ [b0, b1, b2, b3, b4, b5, b6, b7].map (stB 51 ∘ stA 85), b / 16 ≤ 4 ∧ b % 16 ≤ 4 := by
    intro b hb
    obtain ⟨c, hc, rfl⟩ := List.mem_map.1 hb
    exact ⟨(kN c (hl c hc)).2.2.1, (kN c (hl c hc)).2.2.2.1⟩
  have eC := stC_val _ hl3
  rw [show val (List.map (fun _ => 15) ([b0, b1, b2, b3, b4, b5, b6, b7].map (stB 51 ∘ stA 85))) = 1085102592571150095 by simp only [List.map_cons, List.map_nil]; decide] at eC
  rw [List.map_map, show List.map ((fun b => b / 16 + b % 16) ∘ (stB 51 ∘ stA 85)) [b0, b1, b2, b3, b4, b5, b6, b7] = List.map (pc 8) [b0, b1, b2, b3, b4, b5, b6, b7] from List.map_congr_left (fun c hc => (kN c (hl c hc)).2.2.2.2)] at eC
  have hp := pc_val _ hl
  rw [show 8 * [b0, b1, b2, b3, b4, b5, b6, b7].length = 64 from rfl] at hp
  rw [hp]
  unfold swar
  rw [eA, eB, eC]
  rw [last_up (pc 8 b0) (pc 8 b1) (pc 8 b2) (pc 8 b3) (pc 8 b4) (pc 8 b5) (pc 8 b6) (pc 8 b7) (val (List.map (pc 8) [b0, b1, b2, b3, b4, b5, b6, b7])) (pc_le 8 b0) (pc_le 8 b1) (pc_le 8 b2) (pc_le 8 b3) (pc_le 8 b4) (pc_le 8 b5) (pc_le 8 b6) (pc_le 8 b7) (by simp only [List.map_cons, List.map_nil, val, Nat.mul_zero, Nat.add_zero])]
  simp only [List.map_cons, List.map_nil, List.sum_cons, List.sum_nil]
  omega

end Go.Proofs.Ybulkdaie.Pop
