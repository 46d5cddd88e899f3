/-
  Small laws on a row of memory of the call's own.
-/
import Derived.Test.YbulkdaieRows
import Derived.WalkKit
import Derived.WalkSpells
import Derived.WalkLawsBesides
import Derived.RegionTactic
import Derived.Deep.QuietTactic
import Derived.BigQuiet
import Derived.BigRegion
import Derived.Deep.RegionWith
import Derived.Laws.CopyOwn
namespace Go.Proofs.Ybulkdaie
open Go.RowKit

/-- Block g is a row of the cells L, none of them frozen. -/
def RowAt (w : World) (g : Nat) (t : TypeId) (L : List Value) : Prop := w.heap[g]? = some (.cells L.toArray t (0, 0))

theorem RowAt.cell {w : World} {g : Nat} {t : TypeId} {L : List Value} (h : RowAt w g t L) (j : Nat) : w.cell? ⟨g, j, none⟩ = L[j]? := by
  unfold RowAt at h
  simp [World.cell?, h]
theorem RowAt.frozen {w : World} {g : Nat} {t : TypeId} {L : List Value} (h : RowAt w g t L) (j : Nat) : w.frozen? ⟨g, j, none⟩ = false := by
  unfold RowAt at h
  simp [World.frozen?, h]
theorem RowAt.lt {w : World} {g : Nat} {t : TypeId} {L : List Value} (h : RowAt w g t L) : g < w.heap.size := by
  unfold RowAt at h
  exact (Array.getElem?_eq_some_iff.1 h).1
theorem RowAt.setCell {w : World} {g : Nat} {t : TypeId} {L : List Value} (h : RowAt w g t L) (j : Nat) (v : Value) : RowAt (w.setCell ⟨g, j, none⟩ v) g t (L.set j v) := by
  unfold RowAt at h ⊢
  simp [World.setCell, Array.getElem?_modify, h]
theorem RowAt.alloc {w : World} {g : Nat} {t : TypeId} {L : List Value} (h : RowAt w g t L) (o : Obj) : RowAt (w.alloc o) g t L := by
  have hl := h.lt
  unfold RowAt at h ⊢
  rw [Below.heap_alloc w o g hl]; exact h
theorem RowAt.new (w : World) (L : List Value) (t : TypeId) : RowAt (w.alloc (.cells L.toArray t)) w.heap.size t L := by
  unfold RowAt World.alloc
  simp
theorem RowAt.grown {w w' : World} {g : Nat} {t : TypeId} {L : List Value} {row : Option Nat} (h : RowAt w g t L) (hg : w.grownBy w' row) (hne : some g ≠ row) : RowAt w' g t L := by
  have hl := h.lt
  unfold RowAt at h ⊢
  rw [hg.block g hl hne]; exact h

theorem grown_setCell {w0 w : World} {g : Nat} (h : w0.grownBy w (some g)) (j : Nat) (v : Value) : w0.grownBy (w.setCell ⟨g, j, none⟩ v) (some g) :=
  ⟨h.os, h.tape, h.output, by simpa using h.size, fun k hk hne => by
    rw [Below.heap_setCell w ⟨g, j, none⟩ v k (fun e => hne (by simp at e; simp [e]))]; exact h.block k hk hne⟩
theorem grown_alloc {w0 w : World} {row : Option Nat} (h : w0.grownBy w row) (o : Obj) : w0.grownBy (w.alloc o) row :=
  ⟨h.os, h.tape, h.output, by have := h.size; simp; omega, fun k hk hne => by
    rw [Below.heap_alloc w o k (Nat.lt_of_lt_of_le hk h.size)]; exact h.block k hk hne⟩
theorem grown_drew {w0 w : World} {row : Option Nat} (h : w0.grownBy w row) : w0.grownBy w.drew row := ⟨h.os, h.tape, h.output, h.size, h.block⟩

/-- 'make([]T, l, n)': a new row of n zero cells (an element is one cell). -/
theorem wpList_make_row {P : Program} (w : World) {ops : Array Oper} {rest : List Oper} {o : Oper} {a : Act} {Q : Exit → Act → World → Prop}
    (hg : o.guard = none) (l c : Operand) (t : TypeId) (hop : o.op = Op.makeSlice t l c)
    (e : TypeId) (i : TypeInfo) (z : Value) (h1 : P.underlying t = some (.slice e)) (h2 : P.info? e = some i) (h3 : i.zero = some z) (h4 : i.size = 1) (hz : z.cells = #[z])
    (kl kc : IntKind) (L C : Int) (m n : Nat) (hl : a.eval l = .int kl L) (hc : a.eval c = .int kc C) (hL : L = (m : Int)) (hC : C = (n : Int)) (hmn : m ≤ n) (b2 : i.bytes * n ≤ 281474976710656) (b3 : n ≤ maxLen)
    (hK : ∀ w', RowAt w' w.heap.size e (List.replicate n z) → w.grownBy w' none → wpList P ops Q rest (a.put o.dst (.slice (some ⟨w.heap.size, 0, none⟩) m n)) w') :
    wpList P ops Q (o :: rest) a w := by
  refine wpList_plain hg fun K hK' => ?_
  subst hL; subst hC
  have b2' : ((i.bytes * n : Nat) : Int) ≤ 281474976710656 := by omega
  rw [Int.natCast_mul] at b2'
  have hrun := run_make (P := P) w t e i z h1 h2 h3 kl kc (m : Int) (n : Int) (by omega) (by omega) b2' (by unfold maxLen at b3; omega)
  unfold Oper.wp
  simp [execOp, hop, hl, hc, hrun, Result.andThen]
  refine hK' _ _ (hK _ ?_ (World.grownBy_alloc _ _ _))
  have e1 : madeCells z.cells (n * i.size) = (List.replicate n z).toArray := by
    apply Array.toList_inj.1
    rw [h4, hz, Nat.mul_one, toList_madeCells_one]
  rw [e1]
  exact RowAt.new _ _ _

theorem RowAt.owns {w : World} {g : Nat} {e : TypeId} {L : List Value} (h : RowAt w g e L) (k cap : Nat) (hL : L.length = cap) (hk : k ≤ cap) (hm : cap ≤ maxLen) : w.ownsRow 0 e 1 (.slice (some ⟨g, 0, none⟩) k cap) k (L.take k) :=
  ⟨by simp; omega, .inr ⟨g, cap, L.toArray, rfl, Nat.zero_le _, h, hk, hm, by simpa using hL, by simp⟩⟩
theorem RowAt.of_owns {w : World} {g base n : Nat} {e : TypeId} {xs : List Value} (h : w.ownsRow base e 1 (.slice (some ⟨g, 0, none⟩) n n) n xs) : RowAt w g e xs := by
  rcases h.2 with ⟨h1, _⟩ | ⟨g', cap, cur, h1, _, h2, _, _, h3, h4⟩
  · cases h1
  · simp only [Value.slice.injEq, Option.some.injEq, Addr.mk.injEq] at h1
    obtain ⟨⟨rfl, _⟩, _, rfl⟩ := h1
    unfold RowAt
    have e2 : cur = xs.toArray := by
      apply Array.toList_inj.1
      rw [← h4, List.take_of_length_le]
      simp [h3]
    rw [h2, e2]

theorem grown_setRow (w : World) (g : Nat) (cs : Array Value) : w.grownBy (w.setRow g cs) (some g) :=
  ⟨rfl, rfl, rfl, by simp [World.setRow], fun k _ hk => setRow_other w g k cs (fun e => hk (by simp [e]))⟩

/-- 'copy' of a whole slice into a row of the call's own of the same length. -/
theorem copy_row {P : Program} (w1 : World) (T E : TypeId) (hu : P.underlying T = some (.slice E)) (hs : (P.info? E).map (·.size) = some 1) (g n cap : Nat) (x : Addr) (D L : List Value) (hr : RowAt w1 g E L) (hL : L.length = n) (hD : D.length = n)
    (hc : ∀ i u, D[i]? = some u → w1.cell? (x.add i) = some u) (h1 : ∀ u ∈ D, u.oneCell' = true) :
    ∃ w2, (∀ ty, (Builtin.copy_ #[T, T] ty #[.slice (some ⟨g, 0, none⟩) n n, .slice (some x) n cap]).run P w1 = .ok (.int .i64 (n : Int)) w2) ∧ RowAt w2 g E D ∧ w1.grownBy w2 (some g) := by
  refine ⟨w1.setRow g D.toArray, fun ty => ?_, ?_, grown_setRow _ _ _⟩
  · have := run_copy_row (P := P) w1 T T ty E g 0 n n x n cap L.toArray E D hu hs hr (by simp [hD]) hc (by simp; omega) h1
    rw [this, show (L.toArray.toList.take 0 ++ D ++ L.toArray.toList.drop (0 + D.length)) = D by simp; omega, hD]
    rfl
  · exact setRow_heap w1 g _ _ _ _ hr

theorem gcell {W w1 : World} {row : Option Nat} (hb : W.grownBy w1 row) : (∀ b o, b < W.heap.size → some b ≠ row → w1.cell? ⟨b, o, none⟩ = W.cell? ⟨b, o, none⟩) ∧ (∀ b o, b < W.heap.size → some b ≠ row → w1.frozen? ⟨b, o, none⟩ = W.frozen? ⟨b, o, none⟩) :=
  ⟨fun b o h hn => World.cell?_of_block (a := ⟨b, o, none⟩) (hb.block b h hn), fun b o h hn => World.frozen?_of_block (a := ⟨b, o, none⟩) (hb.block b h hn)⟩

end Go.Proofs.Ybulkdaie
