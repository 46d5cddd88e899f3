/-
  Who owns a block; the lists under a map's keys; the sets under a map's keys.
-/
import Derived.Test.YbulkdaieS21
import Derived.Test.YbulkdaieS22
namespace Go.Proofs.Ybulkdaie.Scr
open Go.RowKit Go.Maps
set_option linter.unusedVariables false
set_option linter.unusedSimpArgs false

/-- Whose a block is. -/
abbrev Tags := Nat → Nat × Option Nat
def ext (A : Tags) (s : Nat) (t : Nat × Option Nat) : Tags := fun k => if k < s then A k else t
theorem ext_old {A : Tags} {s : Nat} {t : Nat × Option Nat} {k : Nat} (h : k < s) : ext A s t k = A k := if_pos h
theorem ext_new {A : Tags} {s : Nat} {t : Nat × Option Nat} {k : Nat} (h : s ≤ k) : ext A s t k = t := if_neg (by omega)

/-- How many keys there are among the first n. -/
def seen (κ : Nat → Nat) (n : Nat) : Nat → Bool
  | 0 => false
  | m + 1 => seen κ n m || (κ m == κ n)
theorem seen_iff (κ : Nat → Nat) (n : Nat) : ∀ m, seen κ n m = true ↔ ∃ j, j < m ∧ κ j = κ n
  | 0 => by simp [seen]
  | m + 1 => by
    rw [seen, Bool.or_eq_true, seen_iff κ n m]
    constructor
    · rintro (⟨j, h1, h2⟩ | h)
      · exact ⟨j, by omega, h2⟩
      · exact ⟨m, by omega, by simpa using h⟩
    · rintro ⟨j, h1, h2⟩
      rcases Nat.lt_or_ge j m with h | h
      · exact .inl ⟨j, h, h2⟩
      · obtain rfl : j = m := by omega
        exact .inr (by simpa using h2)
def dcnt (κ : Nat → Nat) : Nat → Nat
  | 0 => 0
  | n + 1 => dcnt κ n + (if seen κ n n = true then 0 else 1)

/-- The events among the first n whose key is l. -/
def idx (κ : Nat → Nat) (l : Nat) : Nat → List Nat
  | 0 => []
  | n + 1 => idx κ l n ++ (if κ n = l then [n] else [])
def ptrs (wb : Nat → Nat) (js : List Nat) : List Value := js.map fun j => .pointer (some ⟨wb j, 0, none⟩)

theorem ptrs_one (wb : Nat → Nat) (js : List Nat) : ∀ u ∈ ptrs wb js, u.oneCell' = true := by
  intro u hu
  obtain ⟨j, _, rfl⟩ := List.mem_map.1 hu
  rfl
theorem idx_lt (κ : Nat → Nat) (l : Nat) : ∀ n, ∀ j ∈ idx κ l n, j < n
  | 0, j, h => by simp [idx] at h
  | n + 1, j, h => by
    rcases List.mem_append.1 h with h | h
    · have := idx_lt κ l n j h; omega
    · split at h
      · simp at h; omega
      · simp at h
theorem idx_len (κ : Nat → Nat) (l : Nat) : ∀ n, (idx κ l n).length ≤ n
  | 0 => Nat.le_refl _
  | n + 1 => by
    have := idx_len κ l n
    rw [idx, List.length_append]
    split <;> simp <;> omega
theorem idx_nil {κ : Nat → Nat} {l : Nat} : ∀ {n}, (∀ j, j < n → κ j ≠ l) → idx κ l n = []
  | 0, _ => rfl
  | n + 1, h => by
    rw [idx, idx_nil (fun j hj => h j (by omega)), if_neg (h n (by omega))]
    rfl
theorem ptrs_congr {wb wb' : Nat → Nat} {js : List Nat} (h : ∀ j ∈ js, wb' j = wb j) : ptrs wb' js = ptrs wb js := by
  unfold ptrs
  apply List.map_congr_left
  intro j hj
  rw [h j hj]

/-- Under each key of the map in block m lies a slice of the events' pointers. -/
structure GL (w : World) (A : Tags) (B m : Nat) (kt : TypeId) (tg : Nat) (lt : Nat → Lit) (κ : Nat → Nat) (wb : Nat → Nat) (N : Nat) (D : DataW Unit) (wl : Nat → Value) : Prop where
  own : w.ownsMap Yba.prog kt slElem m N D
  tagm : A m = (tg, none)
  bm : B ≤ m
  has_ : ∀ l, has D l = true ↔ ∃ j, j < N ∧ lt (κ j) = l
  at_ : ∀ j, j < N → ∀ zd, D.atKey (lt (κ j)) zd = slD (wl j)
  size_ : Maps.size D = dcnt κ N
  same : ∀ i j, κ i = κ j → wl i = wl j
  rows : ∀ j, j < N → w.ownsRow B 57 1 (wl j) (idx κ (κ j) N).length (ptrs wb (idx κ (κ j) N))
  tagr : ∀ j k, j < N → (wl j).ownBlock = some k → A k = (tg, some (κ j))

theorem map_chg {F : Nat → Prop} {w w' : World} {kt : TypeId} {R : Value → Option (DataW Unit × List MemPlace)} {m n : Nat} {D : DataW Unit} (h : w.ownsMap Yba.prog kt R m n D) (hc : Chg F w w') (hn : ¬ F m) : w'.ownsMap Yba.prog kt R m n D := by
  have hlt := h.lt
  obtain ⟨es, clock, hb, r⟩ := h
  exact ⟨es, clock, by rw [hc.block m hlt hn]; exact hb, r⟩

theorem GL.kept {w w' : World} {A A' : Tags} {B m : Nat} {kt : TypeId} {tg : Nat} {lt : Nat → Lit} {κ : Nat → Nat} {wb wb' : Nat → Nat} {N : Nat} {D : DataW Unit} {wl : Nat → Value} (h : GL w A B m kt tg lt κ wb N D wl) {F : Nat → Prop} (hc : Chg F w w') (hF : ∀ k, F k → (A k).1 ≠ tg) (hA : ∀ k, k < w.heap.size → A' k = A k) (hwb : ∀ j, j < N → wb' j = wb j) : GL w' A' B m kt tg lt κ wb' N D wl := by
  refine ⟨map_chg h.own hc (fun hf => hF m hf (by rw [h.tagm])), by rw [hA m h.own.lt]; exact h.tagm, h.bm, h.has_, h.at_, h.size_, h.same, fun j hj => ?_, fun j k hj hk => ?_⟩
  · rw [ptrs_congr (fun i hi => hwb i (idx_lt κ _ N i hi))]
    exact owns_chg (h.rows j hj) hc (fun k hk hf => hF k hf (by rw [h.tagr j k hj hk]))
  · rw [hA k ((h.rows j hj).lt k hk).2]
    exact h.tagr j k hj hk

/-- A set. -/
structure SD where
  b : Nat
  bv : Value
  sv : Value
  L : List Sp

/-- Under each key of the map in block m lies a set of positions. -/
structure GS (w : World) (A : Tags) (B m : Nat) (tg : Nat) (lt : Nat → Lit) (κ : Nat → Nat) (ps : Nat → Nat × Nat) (K N : Nat) (D : DataW Unit) (sd : Nat → SD) : Prop where
  own : w.ownsMap Yba.prog 9 ptElem m K D
  tagm : A m = (tg, none)
  bm : B ≤ m
  has_ : ∀ l, has D l = true ↔ ∃ j, j < K ∧ lt (κ j) = l
  at_ : ∀ j, j < K → ∀ zd, D.atKey (lt (κ j)) zd = numD (sd j).b
  size_ : Maps.size D = dcnt κ K
  same : ∀ i j, κ i = κ j → sd i = sd j
  sets : ∀ j, j < K → PS w B (sd j).b (sd j).bv (sd j).sv (sd j).L
  good : ∀ j, j < K → Good (sd j).L
  mem : ∀ j, j < K → ∀ e c, memL (sd j).L e c ↔ ∃ i, i < N ∧ κ i = κ j ∧ ps i = (e, c)
  tags : ∀ j k, j < K → Foot (sd j).b (sd j).bv (sd j).sv k → A k = (tg, some (κ j))

theorem GS.kept {w w' : World} {A A' : Tags} {B m : Nat} {tg : Nat} {lt : Nat → Lit} {κ : Nat → Nat} {ps : Nat → Nat × Nat} {K N : Nat} {D : DataW Unit} {sd : Nat → SD} (h : GS w A B m tg lt κ ps K N D sd) {F : Nat → Prop} (hc : Chg F w w') (hF : ∀ k, F k → (A k).1 ≠ tg) (hA : ∀ k, k < w.heap.size → A' k = A k) : GS w' A' B m tg lt κ ps K N D sd := by
  refine ⟨map_chg h.own hc (fun hf => hF m hf (by rw [h.tagm])), by rw [hA m h.own.lt]; exact h.tagm, h.bm, h.has_, h.at_, h.size_, h.same, fun j hj => ?_, h.good, h.mem, fun j k hj hk => ?_⟩
  · exact (h.sets j hj).chg hc (fun k hk hf => hF k hf (by rw [h.tags j k hj hk]))
  · rw [hA k ((h.sets j hj).foot_lt hk).2]
    exact h.tags j k hj hk
end Go.Proofs.Ybulkdaie.Scr
