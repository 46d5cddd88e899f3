/-
  The walk of extend, where the words are made.
-/
import Derived.Test.YbulkdaieExt3
import Derived.RegionTactic
import Derived.BigRegion
import Derived.Deep.CutBlock
namespace Go.Proofs.Ybulkdaie
open Go.RowKit
set_option linter.unusedVariables false

theorem own_zrow (w : World) (G n : Nat) (hG : G < w.heap.size) (hn : n ≤ 4096) : (w.alloc (.cells (zrow n) 30)).ownsRow (G + 1) 30 1 (.slice (some ⟨w.heap.size, 0, none⟩) n n) n (List.replicate n (.int .u64 0)) :=
  World.ownsRow_lit w (zrow n) n (by omega) (by unfold maxLen; omega) (by simp [zrow])

/-- The words as the rising marks fill them. -/
structure Fil (B G : Nat) (w wr : World) (ep : Int) (lo hi : Nat) (f l : Int) (bs : List Bool) (n g : Nat) : Prop where
  row : RowAt wr B 70 (runCells ep lo hi f l (.slice (some ⟨g, 0, none⟩) n n))
  own : wr.ownsRow (G + 1) 30 1 (.slice (some ⟨g, 0, none⟩) n n) n (wcells bs n)
  frm : Frm B G w wr
  gG : G < g

theorem Fil.drewN {B G : Nat} {w wr : World} {ep : Int} {lo hi : Nat} {f l : Int} {bs : List Bool} {n g : Nat} (h : Fil B G w wr ep lo hi f l bs n g) (k : Nat) : Fil B G w (wr.drewN k) ep lo hi f l bs n g :=
  ⟨h.row, h.own, h.frm.drewN k, h.gG⟩

theorem Fil.made {B G : Nat} {w : World} {ep : Int} {lo hi : Nat} {f l : Int} {bs : List Bool} {v : Value} (n k : Nat) (hr : RowAt w B 70 (runCells ep lo hi f l v)) (hBG : B < G) (hG : G < w.heap.size) (hn : n ≤ 4096) (hb : ∀ b ∈ bs, b = false) :
    Fil B G w (((w.drewN k).alloc (.cells (zrow n) 30)).setCell ⟨B, 5, none⟩ (.slice (some ⟨w.heap.size, 0, none⟩) n n)) ep lo hi f l bs n w.heap.size := by
  have hr' : RowAt (w.drewN k) B 70 (runCells ep lo hi f l v) := hr
  refine ⟨?_, ?_, (((Frm.refl B G w).drewN k).alloc _).setB 5 _, hG⟩
  · have := (hr'.alloc (.cells (zrow n) 30)).setCell 5 (.slice (some ⟨w.heap.size, 0, none⟩) n n)
    rw [runCells_setv] at this
    exact this
  · rw [wcells_none bs n hb]
    exact own_setB (own_zrow (w.drewN k) G n hG hn) (by omega) 5 _

theorem Fil.set {B G : Nat} {w wr : World} {ep : Int} {lo hi : Nat} {f l : Int} {bs : List Bool} {n g : Nat} (h : Fil B G w wr ep lo hi f l bs n g) (hBG : B < G) (hl : bs.length < 64 * n) :
    Fil B G w (wr.setCell ⟨g, bs.length / 64, none⟩ (.int .u64 ((wd bs (bs.length / 64) + 2 ^ (bs.length % 64) : Nat) : Int))) ep lo hi f l (bs ++ [true]) n g := by
  have hgG := h.gG
  have st := h.own.stored (bs.length / 64) (.int .u64 ((wd bs (bs.length / 64) + 2 ^ (bs.length % 64) : Nat) : Int))
  rw [← wcells_snoc_true bs n hl] at st
  exact ⟨h.row.grown st.2 (by simp; omega), st.1, h.frm.setHi hgG _ _, hgG⟩

end Go.Proofs.Ybulkdaie
