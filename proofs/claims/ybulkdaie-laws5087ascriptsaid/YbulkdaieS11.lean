/-
  A set of positions in memory; runList's remove.
-/
import Derived.Test.YbulkdaieS10
namespace Go.Proofs.Ybulkdaie.Scr
open Go.RowKit
set_option linter.unusedVariables false
set_option linter.unusedSimpArgs false

/-- What turns lies in F. -/
structure Chg (F : Nat → Prop) (w w' : World) : Prop where
  os : w'.os = w.os
  tape : w'.tape = w.tape
  output : w'.output = w.output
  size : w.heap.size ≤ w'.heap.size
  block : ∀ k, k < w.heap.size → ¬ F k → w'.heap[k]? = w.heap[k]?
theorem Chg.refl (F : Nat → Prop) (w : World) : Chg F w w := ⟨rfl, rfl, rfl, Nat.le_refl _, fun _ _ _ => rfl⟩
theorem Chg.trans {F F1 : Nat → Prop} {w w1 w2 : World} (h : Chg F w w1) (h1 : Chg F1 w1 w2) (hF : ∀ k, F1 k → F k ∨ w.heap.size ≤ k) : Chg F w w2 :=
  ⟨h1.os.trans h.os, h1.tape.trans h.tape, h1.output.trans h.output, Nat.le_trans h.size h1.size, fun k hk hn => by
    rw [h1.block k (Nat.lt_of_lt_of_le hk h.size) (fun h2 => by rcases hF k h2 with h3 | h3; exact hn h3; omega)]
    exact h.block k hk hn⟩
theorem Chg.of_below {F : Nat → Prop} {w w' : World} (h : Below w.heap.size w w') : Chg F w w' := ⟨h.os, h.tape, h.output, h.size, fun k hk _ => h.block k hk⟩
theorem Chg.of_grown {F : Nat → Prop} {w w' : World} {row : Option Nat} (h : w.grownBy w' row) (hr : ∀ k, row = some k → F k ∨ w.heap.size ≤ k) : Chg F w w' :=
  ⟨h.os, h.tape, h.output, h.size, fun k hk hn => h.block k hk (fun e => by rcases hr k e.symm with h1 | h1; exact hn h1; omega)⟩
theorem Chg.drew {F : Nat → Prop} {w w' : World} (h : Chg F w w') : Chg F w w'.drew := ⟨h.os, h.tape, h.output, h.size, h.block⟩
theorem Chg.alloc {F : Nat → Prop} {w w' : World} (h : Chg F w w') (o : Obj) : Chg F w (w'.alloc o) :=
  ⟨h.os, h.tape, h.output, by have := h.size; simp; omega, fun k hk hn => by rw [Below.heap_alloc _ _ _ (Nat.lt_of_lt_of_le hk h.size)]; exact h.block k hk hn⟩
theorem Chg.setCell {F : Nat → Prop} {w w' : World} (h : Chg F w w') {p : Addr} (u : Value) (hp : F p.block ∨ w.heap.size ≤ p.block) : Chg F w (w'.setCell p u) :=
  ⟨h.os, h.tape, h.output, by have := h.size; simpa using this, fun k hk hn => by rw [Below.heap_setCell _ _ _ _ (fun e => by subst e; rcases hp with h1 | h1; exact hn h1; omega)]; exact h.block k hk hn⟩
theorem Chg.mono {F F1 : Nat → Prop} {w w' : World} (h : Chg F w w') (hF : ∀ k, F k → F1 k ∨ w.heap.size ≤ k) : Chg F1 w w' :=
  ⟨h.os, h.tape, h.output, h.size, fun k hk hn => h.block k hk (fun h1 => by rcases hF k h1 with h2 | h2; exact hn h2; omega)⟩

theorem RowAt.chg {F : Nat → Prop} {w w' : World} {g : Nat} {t : TypeId} {L : List Value} (h : RowAt w g t L) (hc : Chg F w w') (hn : ¬ F g) : RowAt w' g t L := by
  have hl := h.lt
  unfold RowAt at h ⊢
  rw [hc.block g hl hn]; exact h
theorem owns_chg {F : Nat → Prop} {w w' : World} {base : Nat} {e : TypeId} {size : Nat} {v : Value} {n : Nat} {xs : List Value} (h : w.ownsRow base e size v n xs) (hc : Chg F w w') (hn : ∀ k, v.ownBlock = some k → ¬ F k) : w'.ownsRow base e size v n xs := by
  refine ⟨h.1, ?_⟩
  rcases h.2 with h1 | ⟨g, cap, cur, h1, h2, h3, h4⟩
  · exact .inl h1
  · refine .inr ⟨g, cap, cur, h1, h2, ?_, h4⟩
    rw [hc.block g (Array.getElem?_eq_some_iff.1 h3).1 (hn g (by rw [h1]; rfl))]
    exact h3
theorem owns_tag {w : World} {base : Nat} {e : TypeId} {size : Nat} {v : Value} {n : Nat} {xs : List Value} (h : w.ownsRow base e size v n xs) {k : Nat} (hk : v.ownBlock = some k) : ∃ cur, w.heap[k]? = some (.cells cur e (0, 0)) := by
  rcases h.2 with ⟨rfl, _⟩ | ⟨g, cap, cur, rfl, h2, h3, h4⟩
  · cases hk
  · cases hk; exact ⟨cur, h3⟩

/-- Block b is a set whose spans are L. -/
structure PS (w : World) (base b : Nat) (bv sv : Value) (L : List Sp) : Prop where
  row : RowAt w b 83 [bv]
  bb : base ≤ b
  own : (L = [] ∧ sv = .slice none 0 0 ∧ w.ownsRow base 97 1 bv 0 []) ∨ (L ≠ [] ∧ w.ownsRow base 97 1 bv 1 [sv] ∧ w.ownsRow base 67 3 sv L.length (spCells L))

def Foot (b : Nat) (bv sv : Value) (k : Nat) : Prop := k = b ∨ bv.ownBlock = some k ∨ sv.ownBlock = some k

theorem PS.chg {F : Nat → Prop} {w w' : World} {base b : Nat} {bv sv : Value} {L : List Sp} (h : PS w base b bv sv L) (hc : Chg F w w') (hn : ∀ k, Foot b bv sv k → ¬ F k) : PS w' base b bv sv L := by
  refine ⟨RowAt.chg h.row hc (hn b (.inl rfl)), h.bb, ?_⟩
  rcases h.own with ⟨h1, h2, h3⟩ | ⟨h1, h2, h3⟩
  · exact .inl ⟨h1, h2, owns_chg h3 hc (fun k hk => hn k (.inr (.inl hk)))⟩
  · exact .inr ⟨h1, owns_chg h2 hc (fun k hk => hn k (.inr (.inl hk))), owns_chg h3 hc (fun k hk => hn k (.inr (.inr hk)))⟩
theorem PS.foot_lt {w : World} {base b : Nat} {bv sv : Value} {L : List Sp} (h : PS w base b bv sv L) {k : Nat} (hk : Foot b bv sv k) : base ≤ k ∧ k < w.heap.size := by
  rcases hk with rfl | hk | hk
  · exact ⟨h.bb, h.row.lt⟩
  · rcases h.own with ⟨_, _, h3⟩ | ⟨_, h3, _⟩
    · exact h3.lt k hk
    · exact h3.lt k hk
  · rcases h.own with ⟨_, h3, _⟩ | ⟨_, _, h3⟩
    · rw [h3] at hk; cases hk
    · exact h3.lt k hk
theorem PS.below {w w' : World} {base b : Nat} {bv sv : Value} {L : List Sp} (h : PS w base b bv sv L) (hb : Below w.heap.size w w') : PS w' base b bv sv L :=
  h.chg (F := fun _ => False) (Chg.of_below hb) (fun _ _ h => h)
/-- The set has spans: its two rows. -/
theorem PS.some {w : World} {base b : Nat} {bv sv : Value} {L : List Sp} (h : PS w base b bv sv L) (hL : L ≠ []) :
    ∃ hh cb g c, bv = .slice (some ⟨hh, 0, none⟩) 1 cb ∧ sv = .slice (some ⟨g, 0, none⟩) L.length c ∧ w.ownsRow base 97 1 bv 1 [sv] ∧ w.ownsRow base 67 3 sv L.length (spCells L) ∧ L.length ≤ c ∧ 1 ≤ cb ∧ b ≠ hh ∧ b ≠ g ∧ hh ≠ g := by
  rcases h.own with ⟨h1, _⟩ | ⟨_, h2, h3⟩
  · exact absurd h1 hL
  · rcases h2.2 with ⟨h4, h5⟩ | ⟨hh, cb, cur, h4, h5, h6, h7, _⟩
    · cases h5
    · rcases h3.2 with ⟨h8, h9⟩ | ⟨g, c, cur2, h8, h9, h10, h11, _⟩
      · exact absurd (List.length_eq_zero_iff.1 h9) hL
      · have hr := h.row
        unfold RowAt at hr
        refine ⟨hh, cb, g, c, h4, h8, h2, h3, h11, h7, fun e => ?_, fun e => ?_, fun e => ?_⟩
        · rw [e, h6] at hr; simp at hr
        · rw [e, h10] at hr; simp at hr
        · rw [e, h10] at h6; simp at h6
end Go.Proofs.Ybulkdaie.Scr
