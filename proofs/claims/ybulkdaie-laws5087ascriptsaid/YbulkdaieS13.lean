/-
  runList's insert: into the empty list.
-/
import Derived.Test.YbulkdaieS12
import Derived.Deep.AppendLies
namespace Go.Proofs.Ybulkdaie.Scr
open Go.RowKit
set_option linter.unusedVariables false
set_option linter.unusedSimpArgs false

theorem acell {w : World} {b j : Nat} {v : Value} (h : w.cell? ⟨b, j, none⟩ = some v) (o : Obj) : (w.alloc o).cell? ⟨b, j, none⟩ = some v :=
  bsome ((Below.refl w.heap.size w).alloc (Nat.le_refl _) o) (Nat.le_refl _) h

theorem tag_ne {w : World} {base b : Nat} {t e : TypeId} {size : Nat} {v : Value} {n : Nat} {L xs : List Value} (h : RowAt w b t L) (hown : w.ownsRow base e size v n xs) (hte : t ≠ e) : some b ≠ v.ownBlock := by
  intro hk
  obtain ⟨cur, hc⟩ := owns_tag hown hk.symm
  unfold RowAt at h
  rw [hc] at h
  simp at h
  exact hte h.2.symm

theorem row3 {W w3 : World} {A B : Obj} {b : Nat} {t : TypeId} {L : List Value} {row : Option Nat} (hR : RowAt W b t L) (hg : ((W.alloc A).alloc B).drew.grownBy w3 row) (hne : some b ≠ row) : RowAt w3 b t L :=
  RowAt.grown (w := ((W.alloc A).alloc B).drew) ((hR.alloc A).alloc B) hg hne
theorem row2 {W w3 : World} {A : Obj} {b : Nat} {t : TypeId} {L : List Value} {row : Option Nat} (hR : RowAt W b t L) (hg : (W.alloc A).drew.grownBy w3 row) (hne : some b ≠ row) : RowAt w3 b t L :=
  RowAt.grown (w := (W.alloc A).drew) (hR.alloc A) hg hne

theorem ins_end0 {w W w3 : World} {base b cb g cap : Nat} {x : Option Addr} {sv : Value} {s : Sp} {A B : Obj} (hA : A = .cells (spc s).toArray 67) (hbase : base ≤ w.heap.size) (hbb : base ≤ b) (hbl : b < w.heap.size) (hWb : Below w.heap.size w W)
    (hO : W.ownsRow base 97 1 (.slice x 0 cb) 0 []) (hR : RowAt W b 83 [.slice x 0 cb])
    (hown : w3.ownsRow base 97 1 (.slice (some ⟨g, 0, none⟩) 1 cap) 1 [.slice (some ⟨W.heap.size, 0, none⟩) 1 1]) (hg : ((W.alloc A).alloc B).drew.grownBy w3 (Value.slice x 0 cb).ownBlock) (hat : (Value.slice x 0 cb).ownBlock = some g ∨ g = W.heap.size + 2) :
    ∃ bv' sv', PS (w3.setCell ⟨b, 0, none⟩ (.slice (some ⟨g, 0, none⟩) 1 cap)) base b bv' sv' [s] ∧ Chg (Foot b (.slice x 0 cb) sv) w (w3.setCell ⟨b, 0, none⟩ (.slice (some ⟨g, 0, none⟩) 1 cap)) ∧ ∀ k, Foot b bv' sv' k → Foot b (.slice x 0 cb) sv k ∨ w.heap.size ≤ k := by
  have hne := tag_ne hR hO (by decide)
  have hsz := hWb.size
  have hR3 : RowAt w3 b 83 [.slice x 0 cb] := RowAt.grown (w := ((W.alloc A).alloc B).drew) ((hR.alloc _).alloc _) hg hne
  have hgb : g ≠ b := by
    rcases hat with h | h
    · intro e; rw [e] at h; exact hne h.symm
    · omega
  have hx : ∀ k, (Value.slice x 0 cb).ownBlock = some k → k < W.heap.size := fun k hk => (hO.lt k hk).2
  have hN : RowAt w3 W.heap.size 67 (spc s) := by
    refine RowAt.grown (w := ((W.alloc A).alloc B).drew) ?_ hg (fun e => by have := hx _ e.symm; omega)
    have : RowAt (W.alloc A) W.heap.size 67 (spc s) := by rw [hA]; exact RowAt.new W _ _
    exact this.alloc B
  have hc1 : Chg (fun k => k = b) w3 (w3.setCell ⟨b, 0, none⟩ (.slice (some ⟨g, 0, none⟩) 1 cap)) := (Chg.refl _ _).setCell _ (.inl rfl)
  refine ⟨.slice (some ⟨g, 0, none⟩) 1 cap, .slice (some ⟨W.heap.size, 0, none⟩) 1 1, ⟨hR3.setCell 0 _, hbb, .inr ⟨by simp, ?_, ?_⟩⟩, ?_, ?_⟩
  · exact owns_chg (F := fun k => k = b) hown hc1 (fun k hk => by simp [Value.ownBlock] at hk; omega)
  · refine owns_chg (F := fun k => k = b) (row_owns hN rfl ?_ (by decide) (by decide) (by omega)) hc1 (fun k hk => by simp [Value.ownBlock] at hk; omega)
    simp [spCells]
    rfl
  · refine Chg.setCell ?_ _ (.inl (.inl rfl))
    refine Chg.trans (F1 := fun k => (Value.slice x 0 cb).ownBlock = some k) (((Chg.of_below hWb).alloc A).alloc B).drew (Chg.of_grown hg (fun k e => .inl e)) (fun k e => .inl (.inr (.inl e)))
  · rintro k (h | h | h)
    · exact .inl (.inl h)
    · simp [Value.ownBlock] at h
      rcases hat with h1 | h1
      · rw [h] at h1; exact .inl (.inr (.inl h1))
      · right; omega
    · simp [Value.ownBlock] at h
      right; omega

theorem insert_nil (base b : Nat) (bv sv : Value) (s : Sp) (w : World) (h : PS w base b bv sv []) (hbase : base ≤ w.heap.size) :
    Calls Yba.prog 18 #[.pointer (some ⟨b, 0, none⟩), .agg #[.int .i64 0, .int .i64 0], spn s.e s.lo s.hi] w fun r w' => r = .returned (.tuple #[]) ∧ ∃ bv' sv', PS w' base b bv' sv' [s] ∧ Chg (Foot b bv sv) w w' ∧ ∀ k, Foot b bv' sv' k → Foot b bv sv k ∨ w.heap.size ≤ k := by
  obtain ⟨_, hsv, hown⟩ : ([] : List Sp) = [] ∧ sv = .slice none 0 0 ∧ w.ownsRow base 97 1 bv 0 [] := by
    rcases h.own with h1 | ⟨h1, _⟩
    · exact h1
    · exact absurd rfl h1
  obtain ⟨x, cb, hbv⟩ : ∃ x cb, bv = .slice x 0 cb := by
    rcases hown.2 with ⟨h1, _⟩ | ⟨g, cap, cur, h1, _⟩
    · exact ⟨_, _, h1⟩
    · exact ⟨_, _, h1⟩
  subst hbv
  have hb0 : w.cell? ⟨b, 0, none⟩ = some (.slice x 0 cb) := h.row.cell 0
  have hbl : b < w.heap.size := h.row.lt
  have HROW := hide h.row
  have HBB := hide h.bb
  have HOWN := hide hown
  clear h hown
  unfold spn
  have ha1 := fun o => acell hb0 o
  have ha2 := fun o o' => acell (ha1 o) o'
  go_enter Yba.func18, Yba.ntmps18
  go_wp2_with fail
  go_quiet (fail)
  go_wp2_with fail
  have hWb : Below w.heap.size w (((w.alloc (Obj.cells #[Value.int IntKind.i64 0, Value.int IntKind.i64 0] 89)).alloc (Obj.cells #[Value.int IntKind.u64 ↑s.e, Value.int IntKind.u64 ↑s.lo, Value.int IntKind.u64 ↑s.hi] 67)).drewN nq) := below_drewN (((Below.refl _ _).alloc (Nat.le_refl _) _).alloc (by simp) _) _
  have hWs : (((w.alloc (Obj.cells #[Value.int IntKind.i64 0, Value.int IntKind.i64 0] 89)).alloc (Obj.cells #[Value.int IntKind.u64 ↑s.e, Value.int IntKind.u64 ↑s.lo, Value.int IntKind.u64 ↑s.hi] 67)).drewN nq).heap.size = w.heap.size + 2 := by simp
  have hWr : RowAt (((w.alloc (Obj.cells #[Value.int IntKind.i64 0, Value.int IntKind.i64 0] 89)).alloc (Obj.cells #[Value.int IntKind.u64 ↑s.e, Value.int IntKind.u64 ↑s.lo, Value.int IntKind.u64 ↑s.hi] 67)).drewN nq) (w.heap.size + 1) 67 (spc s) := heap_alloc2_new _ _ _
  generalize (((w.alloc (Obj.cells #[Value.int IntKind.i64 0, Value.int IntKind.i64 0] 89)).alloc (Obj.cells #[Value.int IntKind.u64 ↑s.e, Value.int IntKind.u64 ↑s.lo, Value.int IntKind.u64 ↑s.hi] 67)).drewN nq) = W at hWb hWs hWr ⊢
  have hO : W.ownsRow base 97 1 (.slice x 0 cb) 0 [] := owns_chg (F := fun _ => False) HOWN.out (Chg.of_below hWb) (fun _ _ h => h)
  have hR : RowAt W b 83 [.slice x 0 cb] := RowAt.chg (F := fun _ => False) HROW.out (Chg.of_below hWb) (fun h => h)
  have hb1 : W.cell? ⟨b, 0, none⟩ = some (.slice x 0 cb) := hR.cell 0
  have hr0 : W.cell? ⟨w.heap.size + 1, 0, none⟩ = some (.int .u64 (s.e : Int)) := hWr.cell 0
  have hr1 : W.cell? ⟨w.heap.size + 1, 1, none⟩ = some (.int .u64 (s.lo : Int)) := hWr.cell 1
  have hr2 : W.cell? ⟨w.heap.size + 1, 2, none⟩ = some (.int .u64 (s.hi : Int)) := hWr.cell 2
  clear ha1 ha2 hb0
  have ha1 := fun o => acell hb1 o
  have ha2 := fun o o' => acell (ha1 o) o'
  have HNE := hide (tag_ne hR hO (by decide))
  have HO := hide hO
  have HR := hide hR
  have HWB := hide hWb
  have HWS := hide hWs
  clear hO hR hWb hWs hWr
  obtain ⟨N, hN⟩ : ∃ N, N = W.heap.size := ⟨_, rfl⟩
  have HN := hide hN
  clear hN
  go_region_law (refine step_append_lies _ (by rfl) _ _ 79 (by rfl) base 97 Yba.t97 (.slice none 0 0) 1 24 Yba.underlying79 (by kernel_rfl) (by kernel_rfl) rfl rfl rfl (by decide) (.slice x 0 cb) 0 [] (by rfl) (by exact (HO.out.alloc _).alloc _) ⟨W.heap.size + 1, 0, none⟩ 1 1 [.slice (some ⟨W.heap.size, 0, none⟩) 1 1] (by simp [Act.eval, Act.put]) rfl (World.news_of_block (cs := #[.slice (some ⟨W.heap.size, 0, none⟩) 1 1]) (heap_alloc2_new _ _ _)) (by simp; rfl) (by decide) (by decide) (by decide) (by have := HWS.out; simp; omega) (W.heap.size + 2) (by simp) ?_; intro g cap w3 hown3 hg3 hat3 hlt3; have hR3 : RowAt w3 b 83 [.slice x 0 cb] := row3 HR.out hg3 HNE.out; have hb3 : w3.cell? ⟨b, 0, none⟩ = some (.slice x 0 cb) := hR3.cell 0; have hf3 := hR3.frozen 0)
  all_goals
    clear hR3
    go_wp2_with fail
    refine bodyPost_ret (results_none rfl _ _ _) rfl ?_
    exact ⟨rfl, ins_end0 rfl hbase HBB.out hbl HWB.out HO.out HR.out hown3 hg3 hat3⟩
end Go.Proofs.Ybulkdaie.Scr
