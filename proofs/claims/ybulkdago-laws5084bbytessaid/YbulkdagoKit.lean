/-
  Small laws on a row of memory of the call's own; the contracts of PutUint32 and of the head.
-/
import Derived.Test.YbulkdagoRows
import Derived.WalkKit
import Derived.WalkSpells
import Derived.WalkLawsBesides
import Derived.RegionTactic
import Derived.Deep.QuietTactic
import Derived.BigQuiet
import Derived.BigRegion
import Derived.Deep.RegionWith
import Derived.Laws.CopyOwn
namespace Go.Proofs.Ybulkdago
open Go.RowKit

/-- Block g is a row of the cells L, none of them frozen. -/
def RowAt (w : World) (g : Nat) (t : TypeId) (L : List Value) : Prop := w.heap[g]? = some (.cells L.toArray t (0, 0))

theorem RowAt.cell {w : World} {g : Nat} {t : TypeId} {L : List Value} (h : RowAt w g t L) (j : Nat) : w.cell? ⟨g, j, none⟩ = L[j]? := by
  unfold RowAt at h
  simp [World.cell?, h]
theorem RowAt.frozen {w : World} {g : Nat} {t : TypeId} {L : List Value} (h : RowAt w g t L) (j : Nat) : w.frozen? ⟨g, j, none⟩ = false := by
  unfold RowAt at h
  simp [World.frozen?, h]
theorem RowAt.lt {w : World} {g : Nat} {t : TypeId} {L : List Value} (h : RowAt w g t L) : g < w.heap.size := by
  unfold RowAt at h
  exact (Array.getElem?_eq_some_iff.1 h).1
theorem RowAt.setCell {w : World} {g : Nat} {t : TypeId} {L : List Value} (h : RowAt w g t L) (j : Nat) (v : Value) : RowAt (w.setCell ⟨g, j, none⟩ v) g t (L.set j v) := by
  unfold RowAt at h ⊢
  simp [World.setCell, Array.getElem?_modify, h]
theorem RowAt.alloc {w : World} {g : Nat} {t : TypeId} {L : List Value} (h : RowAt w g t L) (o : Obj) : RowAt (w.alloc o) g t L := by
  have hl := h.lt
  unfold RowAt at h ⊢
  rw [Below.heap_alloc w o g hl]; exact h
theorem RowAt.new (w : World) (L : List Value) (t : TypeId) : RowAt (w.alloc (.cells L.toArray t)) w.heap.size t L := by
  unfold RowAt World.alloc
  simp
theorem RowAt.grown {w w' : World} {g : Nat} {t : TypeId} {L : List Value} {row : Option Nat} (h : RowAt w g t L) (hg : w.grownBy w' row) (hne : some g ≠ row) : RowAt w' g t L := by
  have hl := h.lt
  unfold RowAt at h ⊢
  rw [hg.block g hl hne]; exact h

theorem grown_setCell {w0 w : World} {g : Nat} (h : w0.grownBy w (some g)) (j : Nat) (v : Value) : w0.grownBy (w.setCell ⟨g, j, none⟩ v) (some g) :=
  ⟨h.os, h.tape, h.output, by simpa using h.size, fun k hk hne => by
    rw [Below.heap_setCell w ⟨g, j, none⟩ v k (fun e => hne (by simp at e; simp [e]))]; exact h.block k hk hne⟩
theorem grown_alloc {w0 w : World} {row : Option Nat} (h : w0.grownBy w row) (o : Obj) : w0.grownBy (w.alloc o) row :=
  ⟨h.os, h.tape, h.output, by have := h.size; simp; omega, fun k hk hne => by
    rw [Below.heap_alloc w o k (Nat.lt_of_lt_of_le hk h.size)]; exact h.block k hk hne⟩
theorem grown_drew {w0 w : World} {row : Option Nat} (h : w0.grownBy w row) : w0.grownBy w.drew row := ⟨h.os, h.tape, h.output, h.size, h.block⟩

set_option maxHeartbeats 400000 in
theorem put_any (g o n c : Nat) (v : Int) (L : List Value) (w : World) (hv0 : 0 ≤ v) (hv1 : v < 4294967296) (hr : RowAt w g 5 L) (hn : 4 ≤ n) (hL : o + 4 ≤ L.length) :
    Calls Yba.prog 6 #[.agg #[], .slice (some ⟨g, o, none⟩) n c, .int .u32 v] w fun e w' => e = .returned (.tuple #[]) ∧
      w' = ((((w.alloc (.cells #[] 35)).setCell ⟨g, o, none⟩ (.int .u8 (v / 16777216))).setCell ⟨g, o + 1, none⟩ (.int .u8 (v / 65536 % 256))).setCell ⟨g, o + 2, none⟩ (.int .u8 (v / 256 % 256))).setCell ⟨g, o + 3, none⟩ (.int .u8 (v % 256)) := by
  have hn3 : (3 : Int) < (n : Int) := by omega
  have hn2 : (2 : Int) < (n : Int) := by omega
  have hn1 : (1 : Int) < (n : Int) := by omega
  have hn0 : (0 : Int) < (n : Int) := by omega
  have hr1 := hr.alloc (.cells #[] 35)
  obtain ⟨x0, e0⟩ : ∃ x, L[o]? = some x := ⟨L[o], by simp⟩
  obtain ⟨x1, e1⟩ : ∃ x, L[o + 1]? = some x := ⟨L[o + 1], by simp⟩
  obtain ⟨x2, e2⟩ : ∃ x, L[o + 2]? = some x := ⟨L[o + 2], by simp⟩
  obtain ⟨x3, e3⟩ : ∃ x, L[o + 3]? = some x := ⟨L[o + 3], by simp⟩
  have c0 := (hr1.cell o).trans e0
  have c1 := (hr1.cell (o + 1)).trans e1
  have c2 := (hr1.cell (o + 2)).trans e2
  have c3 := (hr1.cell (o + 3)).trans e3
  have f0 := hr1.frozen o
  have f1 := hr1.frozen (o + 1)
  have f2 := hr1.frozen (o + 2)
  have f3 := hr1.frozen (o + 3)
  clear e0 e1 e2 e3 hr hr1
  go_enter Yba.func6, Yba.ntmps6
  go_wp2
  go_end0
  refine ⟨rfl, ?_⟩
  rfl

theorem put_row (g o n c : Nat) (v : Int) (L : List Value) (w : World) (hv0 : 0 ≤ v) (hv1 : v < 4294967296) (hr : RowAt w g 5 L) (hn : 4 ≤ n) (hL : o + 4 ≤ L.length) :
    Calls Yba.prog 6 #[.agg #[], .slice (some ⟨g, o, none⟩) n c, .int .u32 v] w fun e w' => e = .returned (.tuple #[]) ∧
      RowAt w' g 5 ((((L.set o (.int .u8 (v / 16777216))).set (o + 1) (.int .u8 (v / 65536 % 256))).set (o + 2) (.int .u8 (v / 256 % 256))).set (o + 3) (.int .u8 (v % 256))) ∧ w.grownBy w' (some g) := by
  refine (put_any g o n c v L w hv0 hv1 hr hn hL).mono ?_
  rintro e w' ⟨rfl, rfl⟩
  exact ⟨rfl, ((((hr.alloc _).setCell _ _).setCell _ _).setCell _ _).setCell _ _, grown_setCell (grown_setCell (grown_setCell (grown_setCell (World.grownBy_alloc _ _ _) _ _) _ _) _ _) _ _⟩

def headCells (opc dpc si ni mp sls : Int) : List Value :=
  [.int .u8 (opc / 16777216), .int .u8 (opc / 65536 % 256), .int .u8 (opc / 256 % 256), .int .u8 (opc % 256),
   .int .u8 (dpc / 16777216), .int .u8 (dpc / 65536 % 256), .int .u8 (dpc / 256 % 256), .int .u8 (dpc % 256),
   .int .u8 si, .int .u8 ni, .int .u8 mp, .int .u8 sls]

set_option maxHeartbeats 400000 in
theorem head_any (opc dpc si ni mp sls : Int) (w : World) (ho0 : 0 ≤ opc) (ho1 : opc < 4294967296) (hd0 : 0 ≤ dpc) (hd1 : dpc < 4294967296) :
    Calls Yba.prog 5 #[.int .u32 opc, .int .u32 dpc, .int .u8 si, .int .u8 ni, .int .u8 mp, .int .u8 sls] w fun e w' => e = .returned (.agg (headCells opc dpc si ni mp sls).toArray) ∧ Below w.heap.size w w' := by
  go_enter Yba.func5, Yba.ntmps5
  go_wp2
  exact bodyPost_ret (v := .agg (headCells opc dpc si ni mp sls).toArray) (by simp [results, Yba.results5, go_sem, headCells]) rfl ⟨rfl, (Below.refl _ _).alloc (Nat.le_refl _) _⟩

/-- 'make([]T, l, n)': a new row of n zero cells (an element is one cell). -/
theorem wpList_make_row {P : Program} (w : World) {ops : Array Oper} {rest : List Oper} {o : Oper} {a : Act} {Q : Exit → Act → World → Prop}
    (hg : o.guard = none) (l c : Operand) (t : TypeId) (hop : o.op = Op.makeSlice t l c)
    (e : TypeId) (i : TypeInfo) (z : Value) (h1 : P.underlying t = some (.slice e)) (h2 : P.info? e = some i) (h3 : i.zero = some z) (h4 : i.size = 1) (hz : z.cells = #[z])
    (kl kc : IntKind) (L C : Int) (m n : Nat) (hl : a.eval l = .int kl L) (hc : a.eval c = .int kc C) (hL : L = (m : Int)) (hC : C = (n : Int)) (hmn : m ≤ n) (b2 : i.bytes * n ≤ 281474976710656) (b3 : n ≤ maxLen)
    (hK : ∀ w', RowAt w' w.heap.size e (List.replicate n z) → w.grownBy w' none → wpList P ops Q rest (a.put o.dst (.slice (some ⟨w.heap.size, 0, none⟩) m n)) w') :
    wpList P ops Q (o :: rest) a w := by
  refine wpList_plain hg fun K hK' => ?_
  subst hL; subst hC
  have b2' : ((i.bytes * n : Nat) : Int) ≤ 281474976710656 := by omega
  rw [Int.natCast_mul] at b2'
  have hrun := run_make (P := P) w t e i z h1 h2 h3 kl kc (m : Int) (n : Int) (by omega) (by omega) b2' (by unfold maxLen at b3; omega)
  unfold Oper.wp
  simp [execOp, hop, hl, hc, hrun, Result.andThen]
  refine hK' _ _ (hK _ ?_ (World.grownBy_alloc _ _ _))
  have e1 : madeCells z.cells (n * i.size) = (List.replicate n z).toArray := by
    apply Array.toList_inj.1
    rw [h4, hz, Nat.mul_one, toList_madeCells_one]
  rw [e1]
  exact RowAt.new _ _ _

theorem RowAt.owns {w : World} {g : Nat} {e : TypeId} {L : List Value} (h : RowAt w g e L) (k cap : Nat) (hL : L.length = cap) (hk : k ≤ cap) (hm : cap ≤ maxLen) : w.ownsRow 0 e 1 (.slice (some ⟨g, 0, none⟩) k cap) k (L.take k) :=
  ⟨by simp; omega, .inr ⟨g, cap, L.toArray, rfl, Nat.zero_le _, h, hk, hm, by simpa using hL, by simp⟩⟩
theorem RowAt.of_owns {w : World} {g base n : Nat} {e : TypeId} {xs : List Value} (h : w.ownsRow base e 1 (.slice (some ⟨g, 0, none⟩) n n) n xs) : RowAt w g e xs := by
  rcases h.2 with ⟨h1, _⟩ | ⟨g', cap, cur, h1, _, h2, _, _, h3, h4⟩
  · cases h1
  · simp only [Value.slice.injEq, Option.some.injEq, Addr.mk.injEq] at h1
    obtain ⟨⟨rfl, _⟩, _, rfl⟩ := h1
    unfold RowAt
    have e2 : cur = xs.toArray := by
      apply Array.toList_inj.1
      rw [← h4, List.take_of_length_le]
      simp [h3]
    rw [h2, e2]

theorem grown_setRow (w : World) (g : Nat) (cs : Array Value) : w.grownBy (w.setRow g cs) (some g) :=
  ⟨rfl, rfl, rfl, by simp [World.setRow], fun k _ hk => setRow_other w g k cs (fun e => hk (by simp [e]))⟩

/-- 'copy' of a whole slice into a row of the call's own of the same length. -/
theorem copy_row {P : Program} (w1 : World) (T E : TypeId) (hu : P.underlying T = some (.slice E)) (hs : (P.info? E).map (·.size) = some 1) (g n cap : Nat) (x : Addr) (D L : List Value) (hr : RowAt w1 g E L) (hL : L.length = n) (hD : D.length = n)
    (hc : ∀ i u, D[i]? = some u → w1.cell? (x.add i) = some u) (h1 : ∀ u ∈ D, u.oneCell' = true) :
    ∃ w2, (∀ ty, (Builtin.copy_ #[T, T] ty #[.slice (some ⟨g, 0, none⟩) n n, .slice (some x) n cap]).run P w1 = .ok (.int .i64 (n : Int)) w2) ∧ RowAt w2 g E D ∧ w1.grownBy w2 (some g) := by
  refine ⟨w1.setRow g D.toArray, fun ty => ?_, ?_, grown_setRow _ _ _⟩
  · have := run_copy_row (P := P) w1 T T ty E g 0 n n x n cap L.toArray E D hu hs hr (by simp [hD]) hc (by simp; omega) h1
    rw [this, show (L.toArray.toList.take 0 ++ D ++ L.toArray.toList.drop (0 + D.length)) = D by simp; omega, hD]
    rfl
  · exact setRow_heap w1 g _ _ _ _ hr

theorem gcell {W w1 : World} {row : Option Nat} (hb : W.grownBy w1 row) : (∀ b o, b < W.heap.size → some b ≠ row → w1.cell? ⟨b, o, none⟩ = W.cell? ⟨b, o, none⟩) ∧ (∀ b o, b < W.heap.size → some b ≠ row → w1.frozen? ⟨b, o, none⟩ = W.frozen? ⟨b, o, none⟩) :=
  ⟨fun b o h hn => World.cell?_of_block (a := ⟨b, o, none⟩) (hb.block b h hn), fun b o h hn => World.frozen?_of_block (a := ⟨b, o, none⟩) (hb.block b h hn)⟩

theorem Yba.size5 : (Yba.prog.info? 5).map (·.size) = some 1 := by kernel_rfl
theorem Yba.info5 : (Yba.prog.info? 5).map (fun i => (i.zero, i.size, i.bytes)) = some (some (.int .u8 0), 1, 1) := by kernel_rfl

end Go.Proofs.Ybulkdago
