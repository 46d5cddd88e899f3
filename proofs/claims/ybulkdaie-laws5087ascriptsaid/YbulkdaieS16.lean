/-
  PosSet.Add above all that is there.
-/
import Derived.Test.YbulkdaieS15
namespace Go.Proofs.Ybulkdaie.Scr
open Go.RowKit
set_option linter.unusedVariables false
set_option linter.unusedSimpArgs false

theorem PS.same {w w' : World} {base b : Nat} {bv sv : Value} {L : List Sp} (h : PS w base b bv sv L) (e : w'.heap = w.heap) : PS w' base b bv sv L := by
  refine ⟨?_, h.bb, ?_⟩
  · unfold RowAt; rw [e]; exact h.row
  · simpa only [World.ownsRow, e] using h.own

theorem unDrew {q : Nat} {W w' : World} (h : Below (W.drewN q).heap.size (W.drewN q) w') : Below W.heap.size W w' := ⟨h.os, h.tape, h.output, h.size, h.block⟩

/-- A set more. -/
def AddPost (base b : Nat) (bv sv : Value) (w : World) (L' : List Sp) (w' : World) : Prop := ∃ bv' sv', PS w' base b bv' sv' L' ∧ Chg (Foot b bv sv) w w' ∧ ∀ k, Foot b bv' sv' k → Foot b bv sv k ∨ w.heap.size ≤ k

theorem AddPost.of {base b : Nat} {bv sv : Value} {w W w' : World} {L' : List Sp} (hb : Below w.heap.size w W) (hP : PS w base b bv sv L') {bv' sv' : Value} {L : List Sp} (h : PS w' base b bv' sv' L) (hc : Chg (Foot b bv sv) W w') (hf : ∀ k, Foot b bv' sv' k → Foot b bv sv k ∨ W.heap.size ≤ k) : AddPost base b bv sv w L w' :=
  ⟨bv', sv', h, Chg.trans (Chg.of_below hb) hc (fun k hk => .inl hk), fun k hk => by
    rcases hf k hk with h1 | h1
    · exact .inl h1
    · have := hb.size; right; omega⟩

theorem csome {F : Nat → Prop} {w w' : World} (hc : Chg F w w') {a : Addr} {v : Value} (h : w.cell? a = some v) (hn : ¬ F a.block) : w'.cell? a = some v := by
  rw [World.cell?_of_block (hc.block a.block (World.block_lt_of_cell? w a h) hn)]
  exact h

set_option maxRecDepth 100000 in
theorem add_nil (base b : Nat) (bv sv : Value) (e c : Nat) (w : World) (h : PS w base b bv sv []) (hbase : base ≤ w.heap.size) :
    Calls Yba.prog 10 #[.pointer (some ⟨b, 0, none⟩), pos e c, pos e c] w fun r w' => r = .returned (.bool true) ∧ AddPost base b bv sv w [⟨e, c, c⟩] w' := by
  obtain ⟨x, cb, rfl, rfl⟩ := h.nilForm
  have hb0 : w.cell? ⟨b, 0, none⟩ = some (.slice x 0 cb) := h.row.cell 0
  have hbl : b < w.heap.size := h.row.lt
  have HPS := hide h
  clear h
  unfold pos
  go_enter Yba.func10, Yba.ntmps10
  go_wp2_with (go_at_call 15; refine (last_nil b cb x _ (by exact acell (acell (acell hb0 _) _) _)).mono ?_; rintro r w2 ⟨rfl, hw2⟩; rw [hw2]; clear hw2 w2)
  have hWb : Below w.heap.size w (((w.alloc (Obj.cells #[Value.int IntKind.u64 ↑e, Value.int IntKind.u64 ↑c] 32)).alloc (Obj.cells #[Value.int IntKind.u64 ↑e, Value.int IntKind.u64 ↑c] 32)).alloc (Obj.cells #[Value.int IntKind.u64 ↑e, Value.int IntKind.u64 ↑c, Value.int IntKind.u64 ↑c] 67)) := ((((Below.refl _ _).alloc (Nat.le_refl _) _).alloc (by simp) _).alloc (by simp; omega) _)
  have hWs : (((w.alloc (Obj.cells #[Value.int IntKind.u64 ↑e, Value.int IntKind.u64 ↑c] 32)).alloc (Obj.cells #[Value.int IntKind.u64 ↑e, Value.int IntKind.u64 ↑c] 32)).alloc (Obj.cells #[Value.int IntKind.u64 ↑e, Value.int IntKind.u64 ↑c, Value.int IntKind.u64 ↑c] 67)).heap.size = w.heap.size + 3 := by simp
  have hW0 : RowAt (((w.alloc (Obj.cells #[Value.int IntKind.u64 ↑e, Value.int IntKind.u64 ↑c] 32)).alloc (Obj.cells #[Value.int IntKind.u64 ↑e, Value.int IntKind.u64 ↑c] 32)).alloc (Obj.cells #[Value.int IntKind.u64 ↑e, Value.int IntKind.u64 ↑c, Value.int IntKind.u64 ↑c] 67)) w.heap.size 32 [.int .u64 (e : Int), .int .u64 (c : Int)] := RowAt.alloc (RowAt.alloc (RowAt.new w [.int .u64 (e : Int), .int .u64 (c : Int)] 32) _) _
  have hW1 : RowAt (((w.alloc (Obj.cells #[Value.int IntKind.u64 ↑e, Value.int IntKind.u64 ↑c] 32)).alloc (Obj.cells #[Value.int IntKind.u64 ↑e, Value.int IntKind.u64 ↑c] 32)).alloc (Obj.cells #[Value.int IntKind.u64 ↑e, Value.int IntKind.u64 ↑c, Value.int IntKind.u64 ↑c] 67)) (w.heap.size + 1) 32 [.int .u64 (e : Int), .int .u64 (c : Int)] := RowAt.alloc (by simpa using RowAt.new (w.alloc (Obj.cells #[Value.int IntKind.u64 ↑e, Value.int IntKind.u64 ↑c] 32)) [.int .u64 (e : Int), .int .u64 (c : Int)] 32) _
  have hW2 : RowAt (((w.alloc (Obj.cells #[Value.int IntKind.u64 ↑e, Value.int IntKind.u64 ↑c] 32)).alloc (Obj.cells #[Value.int IntKind.u64 ↑e, Value.int IntKind.u64 ↑c] 32)).alloc (Obj.cells #[Value.int IntKind.u64 ↑e, Value.int IntKind.u64 ↑c, Value.int IntKind.u64 ↑c] 67)) (w.heap.size + 1 + 1) 67 (spc ⟨e, c, c⟩) := by
    have := RowAt.new ((w.alloc (Obj.cells #[Value.int IntKind.u64 ↑e, Value.int IntKind.u64 ↑c] 32)).alloc (Obj.cells #[Value.int IntKind.u64 ↑e, Value.int IntKind.u64 ↑c] 32)) (spc ⟨e, c, c⟩) 67
    simpa [spc] using this
  generalize (((w.alloc (Obj.cells #[Value.int IntKind.u64 ↑e, Value.int IntKind.u64 ↑c] 32)).alloc (Obj.cells #[Value.int IntKind.u64 ↑e, Value.int IntKind.u64 ↑c] 32)).alloc (Obj.cells #[Value.int IntKind.u64 ↑e, Value.int IntKind.u64 ↑c, Value.int IntKind.u64 ↑c] 67)) = W at hWb hWs hW0 hW1 hW2 ⊢
  have hf0 : W.cell? ⟨w.heap.size, 0, none⟩ = some (.int .u64 (e : Int)) := hW0.cell 0
  have hf1 : W.cell? ⟨w.heap.size, 1, none⟩ = some (.int .u64 (c : Int)) := hW0.cell 1
  have hl0 : W.cell? ⟨w.heap.size + 1, 0, none⟩ = some (.int .u64 (e : Int)) := hW1.cell 0
  have hl1 : W.cell? ⟨w.heap.size + 1, 1, none⟩ = some (.int .u64 (c : Int)) := hW1.cell 1
  have hr0 : W.cell? ⟨w.heap.size + 1 + 1, 0, none⟩ = some (.int .u64 (e : Int)) := hW2.cell 0
  have hr1 : W.cell? ⟨w.heap.size + 1 + 1, 1, none⟩ = some (.int .u64 (c : Int)) := hW2.cell 1
  have hr2 : W.cell? ⟨w.heap.size + 1 + 1, 2, none⟩ = some (.int .u64 (c : Int)) := hW2.cell 2
  have HWB := hide hWb
  have HWS := hide hWs
  have HW0 := hide hW0
  have HW2 := hide hW2
  clear hWb hWs hW0 hW1 hW2
  have HPSW := hide (HPS.out.below HWB.out)
  have H18 : Hid (([] : List Sp).length ≤ 18) := by show _ ≤ _; decide
  have HNF : Hid (¬ Foot b (.slice x 0 cb) (.slice none 0 0) (w.heap.size + 1 + 1)) := by intro hk; have := (HPS.out.foot_lt hk).2; omega
  obtain ⟨LL, hLL⟩ : ∃ LL : List Sp, LL = [] := ⟨_, rfl⟩
  rw [← hLL] at HPSW H18
  have HLL := hide hLL
  clear hLL
  go_quiet (fail)
  go_wp2_with fail
  go_quiet (fail)
  go_wp2_with fail
  go_region_held3 (fun w' => w'.cell? ⟨w.heap.size + 1 + 1, 0, none⟩ = some (.int .u64 (e : Int)) ∧ w'.cell? ⟨w.heap.size + 1 + 1, 1, none⟩ = some (.int .u64 (c : Int)) ∧ w'.cell? ⟨w.heap.size + 1 + 1, 2, none⟩ = some (.int .u64 (c : Int)))
    (first | (exact ⟨hr0, hr1, hr2⟩) | (exact ⟨csome hcI hsE0 HNF.out, csome hcI hsE1 HNF.out, csome hcI hsE2 HNF.out⟩) | (exact ⟨bsome hbE (Nat.le_refl _) hr0, bsome hbE (Nat.le_refl _) hr1, bsome hbE (Nat.le_refl _) hr2⟩))
    (first
    | (go_at_call 19; refine (end_PS base b (.slice x 0 cb) (.slice none 0 0) LL _ (by exact HPSW.out.same rfl)).mono ?_; unfold placeV; rintro r wE ⟨rfl, hbE'⟩; have hbE := unDrew hbE'; clear hbE'; have hsE0 := bsome (a := ⟨w.heap.size + 1 + 1, 0, none⟩) hbE (Nat.le_refl _) hr0; have hsE1 := bsome (a := ⟨w.heap.size + 1 + 1, 1, none⟩) hbE (Nat.le_refl _) hr1; have hsE2 := bsome (a := ⟨w.heap.size + 1 + 1, 2, none⟩) hbE (Nat.le_refl _) hr2)
    | (go_at_call 18; refine (insert_PS base b (.slice x 0 cb) (.slice none 0 0) LL [] ⟨e, c, c⟩ wE (by rw [List.append_nil]; exact HPSW.out.below hbE) (by rw [List.append_nil]; exact H18.out) (by have := hbE.size; have := HWS.out; omega)).mono ?_; rintro r wI ⟨rfl, bvI, svI, hpI, hcI, hfI⟩))
  go_wp2_with fail
  go_ret
  refine ⟨rfl, AddPost.of (kstep HWB.out hbE (by have := HWS.out; omega)) HPS.out ?_ hcI hfI⟩
  rw [HLL.out] at hpI
  exact hpI
end Go.Proofs.Ybulkdaie.Scr
