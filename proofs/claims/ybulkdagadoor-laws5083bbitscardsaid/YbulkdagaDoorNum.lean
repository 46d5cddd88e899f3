/-
  Plain arithmetic of a stream of bits, no Go: the stream is a number X, its bit i is X / 2^i % 2.
-/
import Derived.KernelRfl
namespace Go.Proofs.YbulkdagaDoor.Num
set_option linter.unusedVariables false

/-- The number that bytes spell, the least first. -/
def val : List Nat → Nat
  | [] => 0
  | b :: l => b + 256 * val l

theorem pow8 (i : Nat) : 2 ^ (8 * (i + 1)) = 256 * 2 ^ (8 * i) := by
  rw [show 8 * (i + 1) = 8 + 8 * i by omega, Nat.pow_add]
theorem val_lt : ∀ l : List Nat, (∀ b ∈ l, b < 256) → val l < 2 ^ (8 * l.length)
  | [], _ => by simp [val]
  | b :: l, h => by
    have h1 := val_lt l (fun c hc => h c (by simp [hc]))
    have h2 := h b (by simp)
    rw [List.length_cons, pow8]
    simp only [val]
    omega
theorem val_byte : ∀ (l : List Nat), (∀ b ∈ l, b < 256) → ∀ i, val l / 2 ^ (8 * i) % 256 = l.getD i 0
  | [], _, i => by simp [val]
  | b :: l, h, 0 => by
    have h2 := h b (by simp)
    simp only [val, Nat.mul_zero, Nat.pow_zero, Nat.div_one]
    simp
    omega
  | b :: l, h, i + 1 => by
    have h2 := h b (by simp)
    have ih := val_byte l (fun c hc => h c (by simp [hc])) i
    rw [pow8, ← Nat.div_div_eq_div_mul]
    simp only [val]
    rw [show (b + 256 * val l) / 256 = val l by omega, ih]
    simp

theorem div_pow (X a b : Nat) : X / 2 ^ a / 2 ^ b = X / 2 ^ (a + b) := by rw [Nat.div_div_eq_div_mul, ← Nat.pow_add]
theorem split (y a b : Nat) : y % 2 ^ (a + b) = y % 2 ^ a + 2 ^ a * (y / 2 ^ a % 2 ^ b) := by rw [Nat.pow_add, Nat.mod_mul]
theorem mod_mod_pow (y a b : Nat) (h : b ≤ a) : y % 2 ^ a % 2 ^ b = y % 2 ^ b := Nat.mod_mod_of_dvd y (Nat.pow_dvd_pow 2 h)
theorem mod_div_pow (y a b : Nat) (h : b ≤ a) : y % 2 ^ a / 2 ^ b = y / 2 ^ b % 2 ^ (a - b) := by
  have := split y b (a - b)
  rw [show b + (a - b) = a by omega] at this
  rw [this, Nat.add_mul_div_left _ _ (Nat.two_pow_pos b), Nat.div_eq_of_lt (Nat.mod_lt _ (Nat.two_pow_pos b)), Nat.zero_add]

/-- What the inflater's bits are worth: the next 'nb' bits of the stream, in their low places. -/
def Fit (X pos bits nb : Nat) : Prop := bits % 2 ^ nb = X / 2 ^ pos % 2 ^ nb

/-- One byte more. -/
theorem byte_in {X pos bits nb p : Nat} (h : bits = X / 2 ^ pos % 2 ^ nb) (hp : pos + nb = 8 * p) : bits + X / 2 ^ (8 * p) % 256 * 2 ^ nb = X / 2 ^ pos % 2 ^ (nb + 8) := by
  rw [split, div_pow, hp, ← h, Nat.mul_comm]
/-- Eight bytes more, as many as fit below bit 64. -/
theorem word_in {X pos bits nb p nb' : Nat} (h : bits = X / 2 ^ pos % 2 ^ nb) (hp : pos + nb = 8 * p) (h1 : nb' ≤ 64) : Fit X pos ((bits + X / 2 ^ (8 * p) % 2 ^ 64 * 2 ^ nb) % 2 ^ 64) nb' := by
  unfold Fit
  rw [mod_mod_pow _ _ _ h1]
  have : bits + X / 2 ^ (8 * p) % 2 ^ 64 * 2 ^ nb = X / 2 ^ pos % 2 ^ (nb + 64) := by
    rw [split, div_pow, hp, ← h, Nat.mul_comm]
  rw [this, mod_mod_pow _ _ _ (by omega)]
theorem take_val {X pos bits nb n : Nat} (h : Fit X pos bits nb) (hn : n ≤ nb) : bits % 2 ^ n = X / 2 ^ pos % 2 ^ n := by
  unfold Fit at h
  rw [← mod_mod_pow bits nb n hn, h, mod_mod_pow _ _ _ hn]
theorem take_fit {X pos bits nb n : Nat} (h : Fit X pos bits nb) (hn : n ≤ nb) : Fit X (pos + n) (bits / 2 ^ n) (nb - n) := by
  unfold Fit at h ⊢
  rw [← mod_div_pow bits nb n hn, h, mod_div_pow _ _ _ hn, div_pow]
/-- The law's own sum, one bit more. -/
theorem want_step (X pos j : Nat) : X / 2 ^ pos % 2 ^ j + X / 2 ^ (pos + j) % 2 * 2 ^ j = X / 2 ^ pos % 2 ^ (j + 1) := by
  rw [split, div_pow, Nat.pow_one, Nat.mul_comm]
/-- A bit of the stream out of its byte. -/
theorem bit_of_byte (X i : Nat) : X / 2 ^ (8 * (i / 8)) % 256 / 2 ^ (i % 8) % 2 = X / 2 ^ i % 2 := by
  rw [show (256 : Nat) = 2 ^ 8 from rfl, mod_div_pow _ _ _ (by omega), div_pow, show 8 * (i / 8) + i % 8 = i by omega]
  have := mod_mod_pow (X / 2 ^ i) (8 - i % 8) 1 (by omega)
  simpa using this

theorem val8 (X q : Nat) (b : Nat → Nat) (h : ∀ j, j < 8 → b j = X / 2 ^ (8 * (q + j)) % 256) :
    b 0 + b 1 * 256 + b 2 * 65536 + b 3 * 16777216 + b 4 * 4294967296 + b 5 * 1099511627776 + b 6 * 281474976710656 + b 7 * 72057594037927936 = X / 2 ^ (8 * q) % 2 ^ 64 := by
  have hb : ∀ j, j < 8 → b j = X / 2 ^ (8 * q) / 2 ^ (8 * j) % 256 := fun j hj => by rw [div_pow, h j hj]; congr 3; omega
  generalize X / 2 ^ (8 * q) = Y at hb
  have h0 := hb 0 (by omega); have h1 := hb 1 (by omega); have h2 := hb 2 (by omega); have h3 := hb 3 (by omega)
  have h4 := hb 4 (by omega); have h5 := hb 5 (by omega); have h6 := hb 6 (by omega); have h7 := hb 7 (by omega)
  simp only [Nat.reduceMul, Nat.reducePow, Nat.pow_zero, Nat.div_one] at h0 h1 h2 h3 h4 h5 h6 h7 ⊢
  omega

end Go.Proofs.YbulkdagaDoor.Num
