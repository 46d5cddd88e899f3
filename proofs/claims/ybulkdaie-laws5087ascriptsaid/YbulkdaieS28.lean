/-
  The law's first loop.
-/
import Derived.Test.YbulkdaieS27
import Derived.Deep.MidRow
namespace Go.Proofs.Ybulkdaie.Scr
open Go.RowKit Go.Maps
set_option linter.unusedVariables false
set_option linter.unusedSimpArgs false

/-- The steps as they came in. -/
def Steps (w : World) (sa : Option Addr) (sl : Nat) (xn xo xe xc : Nat → Nat) : Prop :=
  ∀ i, i < sl → ∃ sb so, sa = some ⟨sb, so, none⟩ ∧ w.cell? ⟨sb, so + i * 4, none⟩ = some (.int .u8 (xn i : Nat)) ∧ w.cell? ⟨sb, so + i * 4 + 1, none⟩ = some (.int .u8 (xo i : Nat)) ∧ w.cell? ⟨sb, so + i * 4 + 2, none⟩ = some (.int .u8 (xe i : Nat)) ∧ w.cell? ⟨sb, so + i * 4 + 3, none⟩ = some (.int .u8 (xc i : Nat)) ∧ xn i ≤ 255 ∧ xo i ≤ 255 ∧ xe i ≤ 255 ∧ xc i ≤ 255
theorem Steps.below {w w' : World} {sa : Option Addr} {sl : Nat} {xn xo xe xc : Nat → Nat} (h : Steps w sa sl xn xo xe xc) (hb : Below w.heap.size w w') : Steps w' sa sl xn xo xe xc := by
  intro i hi
  obtain ⟨sb, so, h1, h2, h3, h4, h5, h6⟩ := h i hi
  exact ⟨sb, so, h1, bsome hb (Nat.le_refl _) h2, bsome hb (Nat.le_refl _) h3, bsome hb (Nat.le_refl _) h4, bsome hb (Nat.le_refl _) h5, h6⟩

/-- What stands behind i events. -/
structure LS (w wr : World) (A : Tags) (ge n : Nat) (ltA ltO ltN : Nat → Lit) (xn xo xe xc wb : Nat → Nat) (i : Nat) (D1 D2 D3 D4 : DataW Unit) (wl rl : Nat → Value) (sw su : Nat → SD) (C : List Value) : Prop where
  st : St wr A w.heap.size (w.heap.size + 4) w.heap.size (w.heap.size + 1) (w.heap.size + 2) (w.heap.size + 3) ltA ltO ltN (κA xn xe xc) (κO xn xo) (κN xn) (psS xe xc) wb i D1 D2 D3 D4 wl rl sw su
  below : Below w.heap.size w wr
  evs : RowAt wr ge 42 C
  clen : C.length = n * 36
  tge : (A ge).1 = 0
  gew : w.heap.size ≤ ge
  low : ∀ k, k < w.heap.size → (A k).1 = 0
  ev : ∀ j, j < i → EvAt wr ge (j * 36) (j + 1) (nodeS (xn j)) (opS (xo j)) (xe j % 3) (xc j % 6)
  waits : ∀ j, j < i → RowAt wr (wb j) 59 (waitCells (j + 1) (nodeS (xn j)) (opS (xo j)) (xe j % 3) (xc j % 6)) ∧ (A (wb j)).1 = 0

def A0 (B : Nat) : Tags := fun k => if k = B then (1, none) else if k = B + 1 then (3, none) else if k = B + 2 then (4, none) else if k = B + 3 then (2, none) else (0, none)

theorem LS.start (w : World) (n : Nat) (ltA ltO ltN : Nat → Lit) (xn xo xe xc wb : Nat → Nat) (cs : Array Value) (hcs : cs.size = n * 36) :
    LS w ((((((w.alloc (.map #[] 0)).alloc (.map #[] 0)).alloc (.map #[] 0)).alloc (.map #[] 0)).alloc (.cells (ckCells w.heap.size (w.heap.size + 1) (w.heap.size + 2) (w.heap.size + 3)).toArray 56)).alloc (.cells cs 42)) (A0 w.heap.size) (w.heap.size + 5) n ltA ltO ltN xn xo xe xc wb 0 (.map []) (.map []) (.map []) (.map []) (fun _ => .slice none 0 0) (fun _ => .slice none 0 0) (fun _ => ⟨0, .nilIface, .nilIface, []⟩) (fun _ => ⟨0, .nilIface, .nilIface, []⟩) cs.toList := by
  have e1 : (w.alloc (.map #[] 0)).heap.size = w.heap.size + 1 := by simp
  have e2 : ((w.alloc (.map #[] 0)).alloc (.map #[] 0)).heap.size = w.heap.size + 2 := by simp
  have e3 : (((w.alloc (.map #[] 0)).alloc (.map #[] 0)).alloc (.map #[] 0)).heap.size = w.heap.size + 3 := by simp
  have e4 : ((((w.alloc (.map #[] 0)).alloc (.map #[] 0)).alloc (.map #[] 0)).alloc (.map #[] 0)).heap.size = w.heap.size + 4 := by simp
  have hck := RowAt.new ((((w.alloc (.map #[] 0)).alloc (.map #[] 0)).alloc (.map #[] 0)).alloc (.map #[] 0)) (ckCells w.heap.size (w.heap.size + 1) (w.heap.size + 2) (w.heap.size + 3)) 56
  rw [e4] at hck
  have e5 : (((((w.alloc (.map #[] 0)).alloc (.map #[] 0)).alloc (.map #[] 0)).alloc (.map #[] 0)).alloc (.cells (ckCells w.heap.size (w.heap.size + 1) (w.heap.size + 2) (w.heap.size + 3)).toArray 56)).heap.size = w.heap.size + 5 := by simp
  have hev := RowAt.new (((((w.alloc (.map #[] 0)).alloc (.map #[] 0)).alloc (.map #[] 0)).alloc (.map #[] 0)).alloc (.cells (ckCells w.heap.size (w.heap.size + 1) (w.heap.size + 2) (w.heap.size + 3)).toArray 56)) cs.toList 42
  rw [e5] at hev
  have o1 := World.ownsMap_made w Yba.prog 46 slElem
  have o2 := World.ownsMap_made (w.alloc (.map #[] 0)) Yba.prog 9 ptElem
  have o3 := World.ownsMap_made ((w.alloc (.map #[] 0)).alloc (.map #[] 0)) Yba.prog 9 ptElem
  have o4 := World.ownsMap_made (((w.alloc (.map #[] 0)).alloc (.map #[] 0)).alloc (.map #[] 0)) Yba.prog 48 slElem
  rw [e1] at o2
  rw [e2] at o3
  rw [e3] at o4
  have hh : ∀ l, has (DataW.map [] : DataW Unit) l = true ↔ False := fun l => ⟨fun h => (by cases h), fun h => h.elim⟩
  refine ⟨⟨hck.alloc _, by simp [A0], ⟨((((o1.alloc _).alloc _).alloc _).alloc _).alloc _, by simp [A0], Nat.le_refl _, fun l => by rw [hh]; constructor <;> (intro h; first | exact h.elim | (obtain ⟨_, h, _⟩ := h; omega)), fun j hj => by omega, rfl, fun _ _ _ => rfl, fun j hj => by omega, fun j k hj => by omega⟩,
    ⟨((o4.alloc _).alloc _), by simp [A0], by omega, fun l => by rw [hh]; constructor <;> (intro h; first | exact h.elim | (obtain ⟨_, h, _⟩ := h; omega)), fun j hj => by omega, rfl, fun _ _ _ => rfl, fun j hj => by omega, fun j k hj => by omega⟩,
    ⟨(((o2.alloc _).alloc _).alloc _).alloc _, by simp [A0], by omega, fun l => by rw [hh]; constructor <;> (intro h; first | exact h.elim | (obtain ⟨_, h, _⟩ := h; omega)), fun j hj => by omega, rfl, fun _ _ _ => rfl, fun j hj => by omega, fun j hj => by omega, fun j hj => by omega, fun j k hj => by omega⟩,
    ⟨((o3.alloc _).alloc _).alloc _, by simp [A0], by omega, fun l => by rw [hh]; constructor <;> (intro h; first | exact h.elim | (obtain ⟨_, h, _⟩ := h; omega)), fun j hj => by omega, rfl, fun _ _ _ => rfl, fun j hj => by omega, fun j hj => by omega, fun j hj => by omega, fun j k hj => by omega⟩⟩, ?_, ?_, ?_, ?_, by omega, fun k hk => ?_, fun j hj => by omega, fun j hj => by omega⟩
  · exact (((((((Below.refl _ _).alloc (Nat.le_refl _) _).alloc (by simp) _).alloc (by simp; omega) _).alloc (by simp; omega) _).alloc (by simp; omega) _).alloc (by simp; omega) _)
  · simpa using hev
  · simpa using hcs
  · simp [A0]
  · unfold A0
    rw [if_neg (by omega), if_neg (by omega), if_neg (by omega), if_neg (by omega)]
end Go.Proofs.Ybulkdaie.Scr
