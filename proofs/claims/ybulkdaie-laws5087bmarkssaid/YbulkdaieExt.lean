/-
  The walk of extend.
-/
import Derived.Test.YbulkdaieRun
import Derived.Deep.LoopGhost
namespace Go.Proofs.Ybulkdaie
open Go.RowKit
set_option linter.unusedVariables false

theorem hide {p : Prop} (h : p) : Hid p := h

/-- Of the blocks up to G none but B has turned. -/
structure Frm (B G : Nat) (w w' : World) : Prop where
  os : w'.os = w.os
  tape : w'.tape = w.tape
  output : w'.output = w.output
  size : w.heap.size ≤ w'.heap.size
  block : ∀ k, k ≤ G → k ≠ B → k < w.heap.size → w'.heap[k]? = w.heap[k]?

theorem Frm.refl (B G : Nat) (w : World) : Frm B G w w := ⟨rfl, rfl, rfl, Nat.le_refl _, fun _ _ _ _ => rfl⟩
theorem Frm.trans {B G : Nat} {a b c : World} (h : Frm B G a b) (k : Frm B G b c) : Frm B G a c :=
  ⟨k.os.trans h.os, k.tape.trans h.tape, k.output.trans h.output, Nat.le_trans h.size k.size, fun j hj hb hl => (k.block j hj hb (Nat.lt_of_lt_of_le hl h.size)).trans (h.block j hj hb hl)⟩
theorem Frm.drewN {B G : Nat} {a b : World} (h : Frm B G a b) (n : Nat) : Frm B G a (b.drewN n) := ⟨h.os, h.tape, h.output, h.size, h.block⟩
theorem Frm.drew {B G : Nat} {a b : World} (h : Frm B G a b) : Frm B G a b.drew := ⟨h.os, h.tape, h.output, h.size, h.block⟩
theorem Frm.grown {B G : Nat} {a b c : World} {row : Option Nat} (h : Frm B G a b) (hg : b.grownBy c row) (hr : ∀ k, row = some k → k = B ∨ G < k) : Frm B G a c :=
  h.trans ⟨hg.os, hg.tape, hg.output, hg.size, fun k hk hb hl => hg.block k hl (fun e => by rcases hr k e.symm with h | h <;> omega)⟩
theorem Frm.setB {B G : Nat} {a b : World} (h : Frm B G a b) (j : Nat) (v : Value) : Frm B G a (b.setCell ⟨B, j, none⟩ v) :=
  h.grown (grown_setCell (World.grownBy.refl b (some B)) j v) (fun k e => by cases e; exact .inl rfl)
theorem Frm.setHi {B G : Nat} {a b : World} (h : Frm B G a b) {g : Nat} (hg : G < g) (j : Nat) (v : Value) : Frm B G a (b.setCell ⟨g, j, none⟩ v) :=
  h.grown (grown_setCell (World.grownBy.refl b (some g)) j v) (fun k e => by cases e; exact .inr hg)
theorem Frm.alloc {B G : Nat} {a b : World} (h : Frm B G a b) (o : Obj) : Frm B G a (b.alloc o) :=
  h.grown (World.grownBy_alloc b o none) (fun k e => by cases e)

theorem runCells_set (ep : Int) (lo hi hi' : Nat) (f l l' : Int) (v : Value) : ((runCells ep lo hi f l v).set 2 (.int .u64 (hi' : Int))).set 4 (.int .i64 l') = runCells ep lo hi' f l' v := rfl
theorem runCells_setv (ep : Int) (lo hi : Nat) (f l : Int) (v v' : Value) : (runCells ep lo hi f l v).set 5 v' = runCells ep lo hi f l v' := rfl

set_option maxHeartbeats 1000000 in
set_option maxRecDepth 100000 in
theorem ext_keep (B G lo hi d : Nat) (ep f l m : Int) (w : World) (hr : RowAt w B 70 (runCells ep lo hi f l (.slice none 0 0))) (rs sg rg one : Bool)
    (h1 : (m == wrap64 (l + 1)) = rs) (h1' : rs = false → (m != l) = false) (h2 : ((lo : Int) == (hi : Int)) = sg) (h3 : (f != l) = rg) (h4 : ((hi : Int) + (d : Int) == (hi : Int) + 1) = one)
    (hok : (rs && one && (sg || rg) || !rs && (sg || !rg)) = true) (hhi : (hi : Int) + 4 < 18446744073709551615) :
    Calls Yba.prog 11 #[.pointer (some ⟨B, 0, none⟩), .int .u64 ((hi : Int) + (d : Int)), .int .i64 m] w fun e w' => e = .returned (.bool true) ∧ RowAt w' B 70 (runCells ep lo (hi + d) f m (.slice none 0 0)) ∧ Frm B G w w' := by
  have hc := hr.cell
  have hf := hr.frozen
  unfold runCells at hc
  have heq := fun (wx : World) => Lib.run_eql_slice_nil (P := Yba.prog) wx 68 30 none 0 0 0 0 Yba.underlying68
  have fin : ∀ n, RowAt (((w.drewN n).setCell ⟨B, 2, none⟩ (.int .u64 ((hi : Int) + (d : Int)))).setCell ⟨B, 4, none⟩ (.int .i64 m)) B 70 (runCells ep lo (hi + d) f m (.slice none 0 0)) ∧ Frm B G w (((w.drewN n).setCell ⟨B, 2, none⟩ (.int .u64 ((hi : Int) + (d : Int)))).setCell ⟨B, 4, none⟩ (.int .i64 m)) := by
    intro n
    have hr' : RowAt (w.drewN n) B 70 (runCells ep lo hi f l (.slice none 0 0)) := hr
    exact ⟨(hr'.setCell 2 _).setCell 4 _, (((Frm.refl B G w).drewN n).setB 2 _).setB 4 _⟩
  have FIN := hide fin
  clear fin hr
  cases rs <;> cases sg <;> cases rg <;> cases one <;> first | (simp at hok; done) | skip
  all_goals
    clear hok
    try have hne := h1' rfl
    clear h1'
    go_enter Yba.func11, Yba.ntmps11
    go_wp2
    go_quiet (fail)
    go_wp2
    go_ret
    exact ⟨rfl, FIN.out _⟩

end Go.Proofs.Ybulkdaie
