/-
  The law's own memory: nodes, sizes, the maps.
-/
import Derived.Test.YbulkdafmTree
namespace Go.Proofs.Ybulkdafm
open Go.RowKit Go.Maps
set_option linter.unusedVariables false
set_option linter.unusedSimpArgs false

def mCells (bs : List Nat) : List Value := bs.map fun b => Value.map (some b)
def zCells (zs : List Nat) : List Value := zs.map fun (z : Nat) => Value.int .i64 (z : Int)
theorem mCells_one (bs : List Nat) : ∀ u ∈ mCells bs, u.oneCell' = true := by
  intro u hu
  obtain ⟨b, _, rfl⟩ := List.mem_map.1 hu
  rfl

theorem row_obj {w : World} {base : Nat} {e : TypeId} {g n c : Nat} {xs : List Value} (h : w.ownsRow base e 1 (.slice (some ⟨g, 0, none⟩) n c) n xs) : ∃ cur, w.heap[g]? = some (.cells cur e (0, 0)) := by
  rcases h.2 with ⟨h1, _⟩ | ⟨g', cap, cur, h1, _, h2, _⟩
  · cases h1
  · simp only [Value.slice.injEq, Option.some.injEq, Addr.mk.injEq] at h1
    obtain ⟨⟨rfl, _⟩, _⟩ := h1
    exact ⟨cur, h2⟩
theorem row_shape {w : World} {base : Nat} {e : TypeId} {v : Value} {n : Nat} {xs : List Value} (h : w.ownsRow base e 1 v n xs) (hn : 0 < n) : ∃ g c, v = .slice (some ⟨g, 0, none⟩) n c ∧ base ≤ g := by
  rcases h.2 with ⟨_, h1⟩ | ⟨g', cap, cur, h1, hb, _⟩
  · omega
  · exact ⟨g', cap, h1, hb⟩
theorem row_cell {w : World} {base : Nat} {e : TypeId} {g n c : Nat} {xs : List Value} (h : w.ownsRow base e 1 (.slice (some ⟨g, 0, none⟩) n c) n xs) {j : Nat} {u : Value} (hu : xs[j]? = some u) : w.cell? ⟨g, j, none⟩ = some u := by
  have := h.cells (g := g) rfl j u hu
  rwa [WideShapes.add_plain, Nat.zero_add] at this
theorem row_set {w : World} {base : Nat} {e : TypeId} {g n c : Nat} {xs : List Value} (h : w.ownsRow base e 1 (.slice (some ⟨g, 0, none⟩) n c) n xs) (j : Nat) (u : Value) :
    (w.setCell ⟨g, j, none⟩ u).ownsRow base e 1 (.slice (some ⟨g, 0, none⟩) n c) n (xs.set j u) := by
  refine ⟨by rw [List.length_set]; exact h.1, ?_⟩
  rcases h.2 with ⟨h1, _⟩ | ⟨g', cap, cur, h1, hb, h2, h3, h4, h5, h6⟩
  · cases h1
  · have h1' := h1
    simp only [Value.slice.injEq, Option.some.injEq, Addr.mk.injEq] at h1'
    obtain ⟨⟨rfl, _⟩, _, rfl⟩ := h1'
    refine .inr ⟨g, c, cur.setIfInBounds j u, rfl, hb, ?_, h3, h4, by simpa using h5, ?_⟩
    · simp [World.setCell, Array.getElem?_modify, h2]
    · rw [Array.toList_setIfInBounds, ← h6, List.take_set]
theorem row_frozen {w : World} {base : Nat} {e : TypeId} {g n c : Nat} {xs : List Value} (h : w.ownsRow base e 1 (.slice (some ⟨g, 0, none⟩) n c) n xs) (j : Nat) : w.frozen? ⟨g, j, none⟩ = false := by
  obtain ⟨cur, hc⟩ := row_obj h
  simp [World.frozen?, hc]
theorem own_obj {w : World} {b n : Nat} {D : DataW Unit} (h : Own w b n D) : ∃ es cl, w.heap[b]? = some (.map es cl) := by
  obtain ⟨es, cl, h1, _⟩ := h
  exact ⟨es, cl, h1⟩
theorem Own.mono {w : World} {b n n' : Nat} {D : DataW Unit} (h : Own w b n D) (hn : n ≤ n') : Own w b n' D := World.ownsMap.mono h hn

structure Mem (w0 w : World) (gN cN gS cS : Nat) (bs zs : List Nat) (Dm : Nat → DataW Unit) (n : Nat) : Prop where
  below : Below w0.heap.size w0 w
  nodes : w.ownsRow w0.heap.size 24 1 (.slice (some ⟨gN, 0, none⟩) bs.length cN) bs.length (mCells bs)
  sizes : w.ownsRow w0.heap.size 3 1 (.slice (some ⟨gS, 0, none⟩) zs.length cS) zs.length (zCells zs)
  maps : ∀ b ∈ bs, Own w b n (Dm b)
  newer : ∀ b ∈ bs, w0.heap.size ≤ b

section
variable {w0 w w' : World} {gN cN gS cS : Nat} {bs zs : List Nat} {Dm : Nat → DataW Unit} {n : Nat}

theorem Mem.gne (h : Mem w0 w gN cN gS cS bs zs Dm n) : gN ≠ gS := by
  intro e
  obtain ⟨c1, h1⟩ := row_obj h.nodes
  obtain ⟨c2, h2⟩ := row_obj h.sizes
  rw [e, h2] at h1
  simp at h1
theorem Mem.mne (h : Mem w0 w gN cN gS cS bs zs Dm n) {b : Nat} (hb : b ∈ bs) : b ≠ gN ∧ b ≠ gS := by
  obtain ⟨es, cl, h0⟩ := own_obj (h.maps b hb)
  obtain ⟨c1, h1⟩ := row_obj h.nodes
  obtain ⟨c2, h2⟩ := row_obj h.sizes
  refine ⟨fun e => ?_, fun e => ?_⟩
  · rw [e, h1] at h0; cases h0
  · rw [e, h2] at h0; cases h0
theorem Mem.lt (h : Mem w0 w gN cN gS cS bs zs Dm n) : gN < w.heap.size ∧ gS < w.heap.size ∧ w0.heap.size ≤ gN ∧ w0.heap.size ≤ gS :=
  ⟨(h.nodes.lt gN rfl).2, (h.sizes.lt gS rfl).2, (h.nodes.lt gN rfl).1, (h.sizes.lt gS rfl).1⟩
theorem Mem.blt (h : Mem w0 w gN cN gS cS bs zs Dm n) {b : Nat} (hb : b ∈ bs) : b < w.heap.size := World.ownsMap.lt (h.maps b hb)
theorem Mem.mono (h : Mem w0 w gN cN gS cS bs zs Dm n) {n' : Nat} (hn : n ≤ n') : Mem w0 w gN cN gS cS bs zs Dm n' :=
  ⟨h.below, h.nodes, h.sizes, fun b hb => (h.maps b hb).mono hn, h.newer⟩
theorem Mem.grown (h : Mem w0 w gN cN gS cS bs zs Dm n) {row : Option Nat} (hg : w.grownBy w' row) (h1 : row ≠ some gN) (h2 : row ≠ some gS) (h3 : ∀ b ∈ bs, row ≠ some b) (h4 : ∀ k, row = some k → w0.heap.size ≤ k) : Mem w0 w' gN cN gS cS bs zs Dm n :=
  ⟨h.below.grown hg h.below.size (fun k hk => h4 k hk), h.nodes.kept hg (.inr (fun e => h1 e.symm)), h.sizes.kept hg (.inr (fun e => h2 e.symm)), fun b hb => World.ownsMap.kept (h.maps b hb) hg (fun e => h3 b hb e.symm), h.newer⟩
theorem Mem.quiet (h : Mem w0 w gN cN gS cS bs zs Dm n) (hg : w.grownBy w' none) : Mem w0 w' gN cN gS cS bs zs Dm n :=
  h.grown hg (by simp) (by simp) (by simp) (by simp)
theorem Mem.alloc (h : Mem w0 w gN cN gS cS bs zs Dm n) (o : Obj) : Mem w0 (w.alloc o) gN cN gS cS bs zs Dm n := h.quiet (World.grownBy_alloc w o none)
theorem Mem.drewN (h : Mem w0 w gN cN gS cS bs zs Dm n) (m : Nat) : Mem w0 (w.drewN m) gN cN gS cS bs zs Dm n :=
  ⟨below_drewN h.below m, h.nodes, h.sizes, h.maps, h.newer⟩
theorem Mem.store (h : Mem w0 w gN cN gS cS bs zs Dm n) (p z : Nat) : Mem w0 (w.setCell ⟨gS, p, none⟩ (.int .i64 (z : Int))) gN cN gS cS bs (zs.set p z) Dm n := by
  have hne := h.gne
  have hlt := h.lt
  have hg : w.grownBy (w.setCell ⟨gS, p, none⟩ (.int .i64 (z : Int))) (some gS) := ⟨rfl, rfl, rfl, by simp, fun k hk hne => by
    rw [Below.heap_setCell w ⟨gS, p, none⟩ _ k (fun e => hne (by simp at e; simp [e]))]⟩
  refine ⟨h.below.grown hg h.below.size (fun k hk => by cases hk; exact hlt.2.2.2), h.nodes.kept hg (.inr (by simp [Value.ownBlock]; exact hne)), ?_, fun b hb => World.ownsMap.kept (h.maps b hb) hg (fun e => (h.mne hb).2 (Option.some.inj e)), h.newer⟩
  have := row_set h.sizes p (.int .i64 (z : Int))
  rw [List.length_set]
  rw [show zCells (zs.set p z) = (zCells zs).set p (.int .i64 (z : Int)) by simp [zCells, List.map_set]]
  exact this
theorem Mem.put (h : Mem w0 w gN cN gS cS bs zs Dm n) {b : Nat} {D : DataW Unit} (hb : b ∈ bs) (hg : w.grownBy w' (some b)) (ho : Own w' b (n + 1) D) : Mem w0 w' gN cN gS cS bs zs (upd Dm b D) (n + 1) := by
  have hne := h.mne hb
  refine ⟨h.below.grown hg h.below.size (fun k hk => by cases hk; exact h.newer b hb), h.nodes.kept hg (.inr (by simp [Value.ownBlock]; omega)), h.sizes.kept hg (.inr (by simp [Value.ownBlock]; omega)), fun x hx => ?_, h.newer⟩
  by_cases e : x = b
  · subst e; rw [upd_same]; exact ho
  · rw [upd_other _ _ e]
    exact (World.ownsMap.kept (h.maps x hx) hg (fun e' => e (Option.some.inj e'))).mono (Nat.le_succ _)
/-- A node more: its map lies at c, its value at the end of the grown row. -/
theorem Mem.node (h : Mem w0 w gN cN gS cS bs zs Dm n) {c gN' cN' : Nat} {D : DataW Unit} (hg : w.grownBy w' (some gN)) (hn : w'.ownsRow w0.heap.size 24 1 (.slice (some ⟨gN', 0, none⟩) (bs.length + 1) cN') (bs.length + 1) (mCells bs ++ [.map (some c)]))
    (ho : Own w c n D) (hc : w0.heap.size ≤ c) (hcb : ∀ x ∈ bs, x < c) : Mem w0 w' gN' cN' gS cS (bs ++ [c]) zs (upd Dm c D) n := by
  have hne := h.gne
  have hlt := h.lt
  refine ⟨h.below.grown hg h.below.size (fun k hk => by cases hk; exact hlt.2.2.1), ?_, h.sizes.kept hg (.inr (by simp [Value.ownBlock]; omega)), fun x hx => ?_, fun x hx => ?_⟩
  · rw [show mCells (bs ++ [c]) = mCells bs ++ [.map (some c)] by simp [mCells], show (bs ++ [c]).length = bs.length + 1 by simp]
    exact hn
  · rcases (by simpa using hx : x ∈ bs ∨ x = c) with hx | rfl
    · rw [upd_other _ _ (by have := hcb x hx; omega)]
      exact World.ownsMap.kept (h.maps x hx) hg (fun e => (h.mne hx).1 (Option.some.inj e))
    · rw [upd_same]
      refine World.ownsMap.kept ho hg (fun e => ?_)
      obtain ⟨es, cl, h0⟩ := own_obj ho
      obtain ⟨c1, h1⟩ := row_obj h.nodes
      rw [Option.some.inj e, h1] at h0
      cases h0
  · rcases (by simpa using hx : x ∈ bs ∨ x = c) with hx | rfl
    · exact h.newer x hx
    · exact hc
theorem Mem.sizeApp (h : Mem w0 w gN cN gS cS bs zs Dm n) {gS' cS' : Nat} (hg : w.grownBy w' (some gS)) (hs : w'.ownsRow w0.heap.size 3 1 (.slice (some ⟨gS', 0, none⟩) (zs.length + 1) cS') (zs.length + 1) (zCells zs ++ [.int .i64 0])) :
    Mem w0 w' gN cN gS' cS' bs (zs ++ [0]) Dm n := by
  have hne := h.gne
  have hlt := h.lt
  refine ⟨h.below.grown hg h.below.size (fun k hk => by cases hk; exact hlt.2.2.2), h.nodes.kept hg (.inr (by simp [Value.ownBlock]; omega)), ?_, fun x hx => World.ownsMap.kept (h.maps x hx) hg (fun e => (h.mne hx).2 (Option.some.inj e)), h.newer⟩
  rw [show zCells (zs ++ [0]) = zCells zs ++ [.int .i64 0] by simp [zCells], show (zs ++ [0] : List Nat).length = zs.length + 1 by simp]
  exact hs
end

/-- The twins beside the nodes. -/
structure Tw (w0 w : World) (lo gN cN gS cS : Nat) (bs zs : List Nat) (Dm : Nat → DataW Unit) (n gT cT : Nat) (T : List Nat) : Prop where
  mem : Mem w0 w gN cN gS cS bs zs Dm n
  twins : w.ownsRow w0.heap.size 24 1 (.slice (some ⟨gT, 0, none⟩) T.length cT) T.length (mCells T)
  gt : lo ≤ gT
  gl : gN < lo ∧ gS < lo
  bl : ∀ b ∈ bs, b < lo
  l0 : w0.heap.size ≤ lo

theorem Sim.grown {w w' : World} {lo : Nat} {Dm : Nat → DataW Unit} {S : Nat → Nat → Prop} (h : Sim w lo Dm S) {row : Option Nat} (hg : w.grownBy w' row) (hr : ∀ g, row = some g → ∃ cur e, w.heap[g]? = some (.cells cur e (0, 0))) : Sim w' lo Dm S := by
  intro b b' hs
  obtain ⟨h1, D', h2, h3⟩ := h b b' hs
  refine ⟨h1, D', World.ownsMap.kept h2 hg (fun e => ?_), h3⟩
  obtain ⟨cur, ty, hc⟩ := hr b' e.symm
  obtain ⟨es, cl, hm⟩ := own_obj h2
  rw [hc] at hm
  cases hm
theorem Sim.hush {w w' : World} {lo : Nat} {Dm : Nat → DataW Unit} {S : Nat → Nat → Prop} (h : Sim w lo Dm S) (hg : w.grownBy w' (.none : Option Nat)) : Sim w' lo Dm S := h.grown hg (fun g e => by cases e)

section
variable {w0 w w' : World} {lo gN cN gS cS : Nat} {bs zs : List Nat} {Dm : Nat → DataW Unit} {n gT cT : Nat} {T : List Nat}
theorem Tw.quiet (h : Tw w0 w lo gN cN gS cS bs zs Dm n gT cT T) (hg : w.grownBy w' none) : Tw w0 w' lo gN cN gS cS bs zs Dm n gT cT T :=
  ⟨h.mem.quiet hg, h.twins.kept hg (.inr (by simp [Value.ownBlock])), h.gt, h.gl, h.bl, h.l0⟩
theorem Tw.alloc (h : Tw w0 w lo gN cN gS cS bs zs Dm n gT cT T) (o : Obj) : Tw w0 (w.alloc o) lo gN cN gS cS bs zs Dm n gT cT T := h.quiet (World.grownBy_alloc w o none)
theorem Tw.drewN (h : Tw w0 w lo gN cN gS cS bs zs Dm n gT cT T) (m : Nat) : Tw w0 (w.drewN m) lo gN cN gS cS bs zs Dm n gT cT T :=
  ⟨h.mem.drewN m, h.twins, h.gt, h.gl, h.bl, h.l0⟩
theorem Tw.app (h : Tw w0 w lo gN cN gS cS bs zs Dm n gT cT T) {t gT' cT' : Nat} (hg : w.grownBy w' (some gT)) (hn : w'.ownsRow w0.heap.size 24 1 (.slice (some ⟨gT', 0, none⟩) (T.length + 1) cT') (T.length + 1) (mCells T ++ [.map (some t)])) (hl : lo ≤ gT') :
    Tw w0 w' lo gN cN gS cS bs zs Dm n gT' cT' (T ++ [t]) := by
  have h1 := h.gt
  have h2 := h.gl
  refine ⟨h.mem.grown hg (by simp; omega) (by simp; omega) (fun b hb => by have := h.bl b hb; simp; omega) (fun k hk => by cases hk; have := h.l0; omega), ?_, hl, h2, h.bl, h.l0⟩
  rw [show mCells (T ++ [t]) = mCells T ++ [.map (some t)] by simp [mCells], show (T ++ [t]).length = T.length + 1 by simp]
  exact hn
theorem Tw.put (h : Tw w0 w lo gN cN gS cS bs zs Dm n gT cT T) {t m : Nat} {D : DataW Unit} (ht : lo ≤ t) (ho : Own w t m D) (hg : w.grownBy w' (some t)) : Tw w0 w' lo gN cN gS cS bs zs Dm n gT cT T := by
  have h2 := h.gl
  have hne : gT ≠ t := by
    intro e
    obtain ⟨c1, h1⟩ := row_obj h.twins
    obtain ⟨es, cl, h3⟩ := own_obj ho
    rw [e, h3] at h1
    cases h1
  exact ⟨h.mem.grown hg (by simp; omega) (by simp; omega) (fun b hb => by have := h.bl b hb; simp; omega) (fun k hk => by cases hk; have := h.l0; omega), h.twins.kept hg (.inr (by simp [Value.ownBlock]; exact hne)), h.gt, h2, h.bl, h.l0⟩
end
end Go.Proofs.Ybulkdafm
