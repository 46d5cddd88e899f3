/-
  What LawS5087BMarks holds while it runs.
-/
import Derived.Test.YbulkdaieExtend
namespace Go.Proofs.Ybulkdaie
open Go.RowKit
set_option linter.unusedVariables false
set_option linter.unusedSimpArgs false

/-- The law's own table of marks. -/
def mcells (f : Int) (bs : List Bool) : List Value := (List.range bs.length).map fun k => Value.int .i64 (wrap64 (f + ((bs.take (k + 1)).count true : Int)))
theorem mcells_length (f : Int) (bs : List Bool) : (mcells f bs).length = bs.length := by simp [mcells]
theorem mcells_get (f : Int) (bs : List Bool) (k : Nat) (h : k < bs.length) : (mcells f bs)[k]? = some (.int .i64 (wrap64 (f + ((bs.take (k + 1)).count true : Int)))) := by
  simp [mcells, List.getElem?_range h]
theorem mcells_snoc (f : Int) (bs : List Bool) (b : Bool) : mcells f (bs ++ [b]) = mcells f bs ++ [.int .i64 (wrap64 (f + ((bs ++ [b]).count true : Int)))] := by
  unfold mcells
  rw [List.length_append, List.length_singleton, List.range_succ, List.map_append]
  congr 1
  · apply List.map_congr_left
    intro k hk
    have := List.mem_range.1 hk
    rw [List.take_append_of_le_length (by omega)]
  · simp
    rw [List.take_of_length_le (by simp)]
    simp
theorem mcells_falses (f : Int) : ∀ (d : Nat) (bs : List Bool), mcells f (bs ++ List.replicate d false) = mcells f bs ++ List.replicate d (.int .i64 (wrap64 (f + (bs.count true : Int))))
  | 0, bs => by simp
  | d + 1, bs => by
    rw [List.replicate_succ, show bs ++ false :: List.replicate d false = (bs ++ [false]) ++ List.replicate d false by simp, mcells_falses f d, mcells_snoc]
    simp [List.replicate_succ]
theorem mcells_step (f : Int) (bs : List Bool) (rs : Bool) (d : Nat) (hd : 1 ≤ d) : mcells f (bs ++ rs :: List.replicate (d - 1) false) = mcells f bs ++ List.replicate d (.int .i64 (wrap64 (f + ((bs ++ rs :: List.replicate (d - 1) false).count true : Int)))) := by
  obtain ⟨e, rfl⟩ : ∃ e, d = e + 1 := ⟨d - 1, by omega⟩
  rw [show bs ++ rs :: List.replicate (e + 1 - 1) false = (bs ++ [rs]) ++ List.replicate e false by simp, mcells_falses, mcells_snoc]
  have : ((bs ++ [rs]) ++ List.replicate e false).count true = (bs ++ [rs]).count true := by
    rw [List.count_append, List.count_replicate]; simp
  rw [this]
  simp [List.replicate_succ]

theorem Words.grown {w w' : World} {G : Nat} {v : Value} {bs : List Bool} (h : Words w G v bs) (hg : w.grownBy w' (some G)) : Words w' G v bs := by
  obtain ⟨n, g, cap, rfl, h1, h2, h3⟩ := h
  refine ⟨n, g, cap, rfl, h1, h2, h3.kept hg (.inr ?_)⟩
  have := (h3.lt g rfl).1
  simp [Value.ownBlock]; omega
theorem St.grown {w w' : World} {B G lo : Nat} {ep f : Int} {bs : List Bool} (h : St w B G lo ep f bs) (hBG : B < G) (hg : w.grownBy w' (some G)) : St w' B G lo ep f bs := by
  obtain ⟨v, hr, hv⟩ := h
  exact ⟨v, hr.grown hg (by simp; omega), hv.elim (fun h => .inl (h.grown hg)) .inr⟩
theorem St.alloc {w : World} {B G lo : Nat} {ep f : Int} {bs : List Bool} (h : St w B G lo ep f bs) (hBG : B < G) (o : Obj) : St (w.alloc o) B G lo ep f bs := h.grown hBG (World.grownBy_alloc _ _ _)
theorem St.drewN {w : World} {B G lo : Nat} {ep f : Int} {bs : List Bool} (h : St w B G lo ep f bs) (n : Nat) : St (w.drewN n) B G lo ep f bs := h

theorem Yba.info3 : (Yba.prog.info? 3).map (fun i => (i.zero, i.size, i.bytes)) = some (some (.int .i64 0), 1, 8) := by kernel_rfl

/-- Where the law stands: the run, its own table, nothing old has turned. -/
structure LM (w wr : World) (B G lo : Nat) (ep f : Int) (bs : List Bool) (xs : List Value) (c : Nat) : Prop where
  st : St wr B G lo ep f bs
  own : wr.ownsRow G 3 1 (.slice (some ⟨G, 0, none⟩) xs.length c) xs.length xs
  below : Below w.heap.size w wr
  wB : w.heap.size ≤ B
  BG : B < G
  GW : G < wr.heap.size
  head : bs.take 1 = [false]

theorem LM.drewN {w wr : World} {B G lo : Nat} {ep f : Int} {bs : List Bool} {xs : List Value} {c : Nat} (h : LM w wr B G lo ep f bs xs c) (n : Nat) : LM w (wr.drewN n) B G lo ep f bs xs c :=
  ⟨h.st, h.own, below_drewN h.below n, h.wB, h.BG, h.GW, h.head⟩
theorem LM.alloc {w wr : World} {B G lo : Nat} {ep f : Int} {bs : List Bool} {xs : List Value} {c : Nat} (h : LM w wr B G lo ep f bs xs c) (o : Obj) : LM w (wr.alloc o) B G lo ep f bs xs c :=
  ⟨h.st.alloc h.BG o, h.own.alloc o, h.below.alloc h.below.size o, h.wB, h.BG, by have := h.GW; simp; omega, h.head⟩
theorem LM.frm {w wr w' : World} {B G lo : Nat} {ep f : Int} {bs bs' : List Bool} {xs : List Value} {c : Nat} (h : LM w wr B G lo ep f bs xs c) (hs : St w' B G lo ep f bs') (hf : Frm B G wr w') (hh : bs'.take 1 = [false]) : LM w w' B G lo ep f bs' xs c := by
  have hBG := h.BG
  have hGW := h.GW
  have hwB := h.wB
  have hG : w'.heap[G]? = wr.heap[G]? := hf.block G (Nat.le_refl _) (by omega) hGW
  refine ⟨hs, ?_, h.below.trans ⟨hf.os, hf.tape, hf.output, hf.size, fun k hk => ?_⟩, hwB, hBG, Nat.lt_of_lt_of_le hGW hf.size, hh⟩
  · rcases h.own.2 with ⟨h1, _⟩ | ⟨g, cap, cur, h1, h2, h3, h4⟩
    · cases h1
    · have h1' := h1
      simp only [Value.slice.injEq, Option.some.injEq, Addr.mk.injEq] at h1'
      refine ⟨h.own.1, .inr ⟨g, cap, cur, h1, h2, ?_, h4⟩⟩
      rw [← h1'.1.1] at h3 ⊢
      rw [hG]; exact h3
  · by_cases hkw : k < wr.heap.size
    · exact hf.block k (by omega) (by omega) hkw
    · have := h.below.size; omega
theorem LM.app {w wr w' : World} {B G lo : Nat} {ep f : Int} {bs : List Bool} {xs : List Value} {c : Nat} {u : Value} (h : LM w wr B G lo ep f bs xs c) (hg : wr.grownBy w' (some G))
    (hown : w'.ownsRow G 3 1 (.slice (some ⟨G, 0, none⟩) (xs.length + 1) c) (xs.length + 1) (xs ++ [u])) : LM w w' B G lo ep f bs (xs ++ [u]) c :=
  ⟨h.st.grown h.BG hg, by rw [List.length_append]; exact hown, h.below.grown hg h.below.size (fun k e => by cases e; have := h.wB; have := h.BG; omega), h.wB, h.BG, Nat.lt_of_lt_of_le h.GW hg.size, h.head⟩

theorem LM.start {w w1 w2 : World} {lo c : Nat} {ep f : Int} {o : Obj} (hf1 : -9223372036854775808 ≤ f) (hf2 : f ≤ 9223372036854775807)
    (hg1 : (w.alloc (.cells #[.int .u64 ep, .int .u64 (lo : Int), .int .u64 (lo : Int), .int .i64 f, .int .i64 f, .slice none 0 0] 70)).grownBy w1 none) (hG : w.heap.size + 1 < w1.heap.size)
    (hown : w2.ownsRow (w.heap.size + 1) 3 1 (.slice (some ⟨w.heap.size + 1, 0, none⟩) (0 + 1) c) (0 + 1) ([] ++ [.int .i64 f])) (hg2 : (w1.alloc o).grownBy w2 (some (w.heap.size + 1))) :
    LM w w2 w.heap.size (w.heap.size + 1) lo ep f [false] [.int .i64 f] c := by
  have hr0 := RowAt.new w [.int .u64 ep, .int .u64 (lo : Int), .int .u64 (lo : Int), .int .i64 f, .int .i64 f, .slice none 0 0] 70
  have hr := ((hr0.grown hg1 (by simp)).alloc o).grown hg2 (by simp)
  have hsz := hg2.size
  simp at hsz
  refine ⟨⟨.slice none 0 0, ?_, .inr ⟨rfl, .inl rfl⟩⟩, hown, ?_, Nat.le_refl _, by omega, by omega, rfl⟩
  · have e : wrap64 (f + (([false] : List Bool).count true : Int)) = f := by simpa using IntWalk.wrap64_in f ⟨hf1, hf2⟩
    rw [e]
    exact hr
  · have b1 : Below w.heap.size w w1 := ((Below.refl _ _).alloc (Nat.le_refl _) _).grown hg1 (by simp) (fun k e => by cases e)
    exact (b1.alloc b1.size _).grown hg2 (by have := b1.size; simp; omega) (fun k e => by cases e; omega)

end Go.Proofs.Ybulkdaie
