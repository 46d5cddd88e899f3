/-
  A store of an event.
-/
import Derived.Test.YbulkdaieS28
namespace Go.Proofs.Ybulkdaie.Scr
open Go.RowKit Go.Maps
set_option linter.unusedVariables false
set_option linter.unusedSimpArgs false

theorem ex42 : ∃ i z, Yba.prog.info? 42 = some i ∧ i.zero = some z ∧ i.size = 36 ∧ i.bytes = 360 := ⟨Yba.t42, Yba.t42.zero.getD .nilIface, by kernel_rfl, by kernel_rfl, rfl, rfl⟩
theorem make_evs (n : Nat) (hn : n ≤ 300) : ∃ cs : Array Value, cs.size = n * 36 ∧ ∀ wx : World, (Instr.makeSlice 26 (.int .i64 (n : Int)) (.int .i64 (n : Int))).run Yba.prog wx = .ok (.slice (some ⟨wx.heap.size, 0, none⟩) n n) (wx.alloc (.cells cs 42)) := by
  obtain ⟨i, z, h2, h3, h4, h5⟩ := ex42
  refine ⟨madeCells z.cells (n * 36), size_madeCells _ _, fun wx => ?_⟩
  have := run_make (P := Yba.prog) wx 26 42 i z Yba.underlying26 h2 h3 .i64 .i64 (n : Int) (n : Int) (by omega) (by omega) (by rw [h5]; omega) (by omega)
  rw [this, h4]
  simp

theorem scfar {w : World} {b g o j : Nat} {vs : List Value} {v : Value} (h : w.cell? ⟨b, j, none⟩ = some v) (hne : b ≠ g) : (w.setCells g o vs).drew.cell? ⟨b, j, none⟩ = some v := by
  have hc : Chg (fun k => k = g) w (w.setCells g o vs) := Chg.of_grown (grown_setCells vs o w w ⟨rfl, rfl, rfl, Nat.le_refl _, fun _ _ _ => rfl⟩) (fun k e => .inl (by cases e; rfl))
  exact csome hc h hne
def evCells (line : Nat) (s1 s2 : ByteArray) (ee cc : Nat) : List Value := [.int .i64 (line : Int), .int .i64 0, .string ⟨#[]⟩, .string s1, .int .u64 0, .int .i64 0, .pointer none, .bool false, .int .u64 (ee : Int), .int .u64 (cc : Int), .bool false, .int .u64 0, .int .u64 0, .string ⟨#[]⟩, .int .u64 0, .int .i64 0, .int .i64 0, .string ⟨#[]⟩, .int .i64 0, .int .u64 0, .int .u64 0, .int .u64 0, .int .u64 0, .int .i64 0, .int .i64 0, .int .u64 0, .string ⟨#[]⟩, .string ⟨#[]⟩, .int .u64 0, .int .u64 0, .int .i64 0, .int .i64 0, .string ⟨#[]⟩, .string ⟨#[109, 97, 106, 111, 114, 105, 116, 121]⟩, .string s2, .int .u64 0]
theorem evCells_len (line : Nat) (s1 s2 : ByteArray) (ee cc : Nat) : (evCells line s1 s2 ee cc).length = 36 := rfl
theorem store_gen (w : World) (b o : Nat) (cs : List Value) (hl : cs.length = 36) (h1 : cs.all (·.oneCell') = true) (ht : w.there b o 36) :
    (Instr.storeAt 42 (.pointer (some ⟨b, o, none⟩)) (.agg cs.toArray)).run Yba.prog w = .ok () (w.setCells b o cs) :=
  run_storeAt_mid (P := Yba.prog) w b o 42 cs.toArray (by rw [List.size_toArray, hl]; exact ht) (by rw [List.size_toArray, hl]; kernel_rfl) (all_oneCell_toArray (List.all_eq_true.1 h1))
def evC (L E F : Int) (s1 s2 : ByteArray) : List Value := [.int .i64 L, .int .i64 0, .string ⟨#[]⟩, .string s1, .int .u64 0, .int .i64 0, .pointer none, .bool false, .int .u64 E, .int .u64 F, .bool false, .int .u64 0, .int .u64 0, .string ⟨#[]⟩, .int .u64 0, .int .i64 0, .int .i64 0, .string ⟨#[]⟩, .int .i64 0, .int .u64 0, .int .u64 0, .int .u64 0, .int .u64 0, .int .i64 0, .int .i64 0, .int .u64 0, .string ⟨#[]⟩, .string ⟨#[]⟩, .int .u64 0, .int .u64 0, .int .i64 0, .int .i64 0, .string ⟨#[]⟩, .string ⟨#[109, 97, 106, 111, 114, 105, 116, 121]⟩, .string s2, .int .u64 0]
theorem evC_len (L E F : Int) (s1 s2 : ByteArray) : (evC L E F s1 s2).length = 36 := rfl
theorem evC_all (L E F : Int) (s1 s2 : ByteArray) : (evC L E F s1 s2).all (·.oneCell') = true := rfl
theorem sc_gen (w : World) (b o : Nat) (cs : List Value) (hl : cs.length = 36) (h1 : cs.all (·.oneCell') = true) (ht : w.there b o 36) : (storeCells ⟨b, o, none⟩ cs 0).run Yba.prog w = .ok () (w.setCells b o cs) := by
  have := run_storeCells_cells (P := Yba.prog) b o cs 0 w (fun j hj => by simpa using (ht j (by omega)).1) (fun j hj => by simpa using (ht j (by omega)).2) (List.all_eq_true.1 h1)
  simpa using this
theorem sc36 (w : World) (b o : Nat) (L E F : Int) (s1 s2 : ByteArray) (ht : w.there b o 36) :
    (storeCells ⟨b, o, none⟩ [.int .i64 L, .int .i64 0, .string ⟨#[]⟩, .string s1, .int .u64 0, .int .i64 0, .pointer none, .bool false, .int .u64 E, .int .u64 F, .bool false, .int .u64 0, .int .u64 0, .string ⟨#[]⟩, .int .u64 0, .int .i64 0, .int .i64 0, .string ⟨#[]⟩, .int .i64 0, .int .u64 0, .int .u64 0, .int .u64 0, .int .u64 0, .int .i64 0, .int .i64 0, .int .u64 0, .string ⟨#[]⟩, .string ⟨#[]⟩, .int .u64 0, .int .u64 0, .int .i64 0, .int .i64 0, .string ⟨#[]⟩, .string ⟨#[109, 97, 106, 111, 114, 105, 116, 121]⟩, .string s2, .int .u64 0] 0).run Yba.prog w = .ok () (w.setCells b o (evC L E F s1 s2)) := by
  have h := sc_gen w b o (evC L E F s1 s2) (evC_len _ _ _ _ _) (evC_all _ _ _ _ _) ht
  have e : evC L E F s1 s2 = [.int .i64 L, .int .i64 0, .string ⟨#[]⟩, .string s1, .int .u64 0, .int .i64 0, .pointer none, .bool false, .int .u64 E, .int .u64 F, .bool false, .int .u64 0, .int .u64 0, .string ⟨#[]⟩, .int .u64 0, .int .i64 0, .int .i64 0, .string ⟨#[]⟩, .int .i64 0, .int .u64 0, .int .u64 0, .int .u64 0, .int .u64 0, .int .i64 0, .int .i64 0, .int .u64 0, .string ⟨#[]⟩, .string ⟨#[]⟩, .int .u64 0, .int .u64 0, .int .i64 0, .int .i64 0, .string ⟨#[]⟩, .string ⟨#[109, 97, 106, 111, 114, 105, 116, 121]⟩, .string s2, .int .u64 0] := by rw [evC]
  rw [show (storeCells ⟨b, o, none⟩ [.int .i64 L, .int .i64 0, .string ⟨#[]⟩, .string s1, .int .u64 0, .int .i64 0, .pointer none, .bool false, .int .u64 E, .int .u64 F, .bool false, .int .u64 0, .int .u64 0, .string ⟨#[]⟩, .int .u64 0, .int .i64 0, .int .i64 0, .string ⟨#[]⟩, .int .i64 0, .int .u64 0, .int .u64 0, .int .u64 0, .int .u64 0, .int .i64 0, .int .i64 0, .int .u64 0, .string ⟨#[]⟩, .string ⟨#[]⟩, .int .u64 0, .int .u64 0, .int .i64 0, .int .i64 0, .string ⟨#[]⟩, .string ⟨#[109, 97, 106, 111, 114, 105, 116, 121]⟩, .string s2, .int .u64 0] 0) = storeCells ⟨b, o, none⟩ (evC L E F s1 s2) 0 by rw [e]]
  exact h
theorem sc1 (a : Addr) (v : Value) : storeCells a [v] 0 = (do store (a.add 0) v; pure ()) := rfl
theorem sc2 (a : Addr) (v v2 : Value) : storeCells a [v, v2] 0 = (do store (a.add 0) v; store (a.add 1) v2; pure ()) := rfl
theorem sc3 (a : Addr) (v v2 v3 : Value) : storeCells a [v, v2, v3] 0 = (do store (a.add 0) v; store (a.add 1) v2; store (a.add 2) v3; pure ()) := rfl
theorem sc4 (a : Addr) (v v2 v3 v4 : Value) : storeCells a [v, v2, v3, v4] 0 = (do store (a.add 0) v; store (a.add 1) v2; store (a.add 2) v3; store (a.add 3) v4; pure ()) := rfl
end Go.Proofs.Ybulkdaie.Scr
