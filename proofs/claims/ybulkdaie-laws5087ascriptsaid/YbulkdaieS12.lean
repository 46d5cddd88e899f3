/-
  runList's remove.
-/
import Derived.Test.YbulkdaieS11
namespace Go.Proofs.Ybulkdaie.Scr
open Go.RowKit
set_option linter.unusedVariables false
set_option linter.unusedSimpArgs false

theorem gsome {w w' : World} {g : Nat} (hg : w.grownBy w' (some g)) {a : Addr} {v : Value} (h : w.cell? a = some v) (hne : a.block ≠ g) : w'.cell? a = some v := hg.cell h (by simpa using hne)

theorem owns_cell0 {w : World} {base h cb : Nat} {u : Value} {e : TypeId} (hown : w.ownsRow base e 1 (.slice (some ⟨h, 0, none⟩) 1 cb) 1 [u]) : w.cell? ⟨h, 0, none⟩ = some u := by
  have := hown.cells (g := h) rfl 0 u rfl
  rwa [WideShapes.add_plain] at this
theorem owns_set0 {w : World} {base h cb : Nat} {u u' : Value} {e : TypeId} (hown : w.ownsRow base e 1 (.slice (some ⟨h, 0, none⟩) 1 cb) 1 [u]) : (w.setCell ⟨h, 0, none⟩ u').ownsRow base e 1 (.slice (some ⟨h, 0, none⟩) 1 cb) 1 [u'] := by
  obtain ⟨C, h1, h2, h3, h4, h5, h6⟩ := owns_row hown
  refine row_owns (h1.setCell 0 u') (by simpa using h2) ?_ h4 h5 h6
  cases C with
  | nil => simp at h3
  | cons x r => simp
theorem owns_frozen {w : World} {base : Nat} {e : TypeId} {size h n cb : Nat} {xs : List Value} (hown : w.ownsRow base e size (.slice (some ⟨h, 0, none⟩) n cb) n xs) (j : Nat) : w.frozen? ⟨h, j, none⟩ = false := by
  obtain ⟨C, h1, _⟩ := owns_row hown
  exact h1.frozen j

theorem rm_end0 {w w2 w3 : World} {base b hh cb g n c : Nat} (hbh : b ≠ hh) (hbb : base ≤ b) (hrow : RowAt w2 b 83 [.slice (some ⟨hh, 0, none⟩) 1 cb]) (hchg : Chg (Foot b (.slice (some ⟨hh, 0, none⟩) 1 cb) (.slice (some ⟨g, 0, none⟩) n c)) w w2)
    (hown : w3.ownsRow base 97 1 (.slice (some ⟨hh, 0, none⟩) 0 cb) 0 []) (hg : w2.drew.grownBy w3 (some hh)) {L' : List Sp} (hL : L' = []) :
    ∃ bv' sv', PS (w3.setCell ⟨b, 0, none⟩ (.slice (some ⟨hh, 0, none⟩) 0 cb)) base b bv' sv' L' ∧ Chg (Foot b (.slice (some ⟨hh, 0, none⟩) 1 cb) (.slice (some ⟨g, 0, none⟩) n c)) w (w3.setCell ⟨b, 0, none⟩ (.slice (some ⟨hh, 0, none⟩) 0 cb)) ∧ ∀ k, Foot b bv' sv' k → Foot b (.slice (some ⟨hh, 0, none⟩) 1 cb) (.slice (some ⟨g, 0, none⟩) n c) k := by
  refine ⟨.slice (some ⟨hh, 0, none⟩) 0 cb, .slice none 0 0, ⟨?_, hbb, .inl ⟨hL, rfl, ?_⟩⟩, ?_, ?_⟩
  · exact (RowAt.grown (w := w2.drew) hrow hg (by simp; omega)).setCell 0 _
  · exact owns_chg (F := fun k => k = b) hown ((Chg.refl _ _).setCell _ (.inl rfl)) (fun k hk => by simp [Value.ownBlock] at hk; omega)
  · refine Chg.setCell ?_ _ (.inl (.inl rfl))
    exact Chg.trans (F1 := fun k => k = hh) hchg.drew (Chg.of_grown hg (fun k e => .inl (by cases e; rfl))) (fun k e => .inl (.inr (.inl (by cases e; rfl))))
  · rintro k (h | h | h)
    · exact .inl h
    · exact .inr (.inl h)
    · cases h
theorem rm_end1 {w w2 : World} {base b hh cb g n m c : Nat} (hbh : b ≠ hh) (hhg : hh ≠ g) (hbb : base ≤ b) (hrow : RowAt w2 b 83 [.slice (some ⟨hh, 0, none⟩) 1 cb]) (hchg : Chg (Foot b (.slice (some ⟨hh, 0, none⟩) 1 cb) (.slice (some ⟨g, 0, none⟩) n c)) w w2)
    (hB : w2.ownsRow base 97 1 (.slice (some ⟨hh, 0, none⟩) 1 cb) 1 [.slice (some ⟨g, 0, none⟩) n c]) {L' : List Sp} (hL : L'.length = m) (hm : m ≠ 0)
    (hown : w2.ownsRow base 67 3 (.slice (some ⟨g, 0, none⟩) m c) m (spCells L')) :
    ∃ bv' sv', PS (w2.setCell ⟨hh, 0, none⟩ (.slice (some ⟨g, 0, none⟩) m c)).drew base b bv' sv' L' ∧ Chg (Foot b (.slice (some ⟨hh, 0, none⟩) 1 cb) (.slice (some ⟨g, 0, none⟩) n c)) w (w2.setCell ⟨hh, 0, none⟩ (.slice (some ⟨g, 0, none⟩) m c)).drew ∧ ∀ k, Foot b bv' sv' k → Foot b (.slice (some ⟨hh, 0, none⟩) 1 cb) (.slice (some ⟨g, 0, none⟩) n c) k := by
  have hc1 : Chg (fun k => k = hh) w2 (w2.setCell ⟨hh, 0, none⟩ (.slice (some ⟨g, 0, none⟩) m c)) := (Chg.refl _ _).setCell _ (.inl rfl)
  refine ⟨.slice (some ⟨hh, 0, none⟩) 1 cb, .slice (some ⟨g, 0, none⟩) m c, ⟨?_, hbb, .inr ⟨?_, ?_, ?_⟩⟩, ?_, ?_⟩
  · exact RowAt.chg (F := fun k => k = hh) hrow hc1.drew hbh
  · intro e; rw [e] at hL; simp at hL; omega
  · exact owns_set0 hB
  · rw [hL]
    exact owns_chg (F := fun k => k = hh) hown hc1.drew (fun k hk => by simp [Value.ownBlock] at hk; omega)
  · exact (Chg.trans hchg hc1 (fun k e => .inl (.inr (.inl (by cases e; rfl))))).drew
  · rintro k (h | h | h)
    · exact .inl h
    · exact .inr (.inl h)
    · exact .inr (.inr h)

set_option maxHeartbeats 1000000 in
theorem remove_any (base b : Nat) (bv sv : Value) (L : List Sp) (i m : Nat) (w : World) (h : PS w base b bv sv L) (hi : i < L.length) (hm : L.length = m + 1) (h18 : L.length ≤ 18) :
    Calls Yba.prog 22 #[.pointer (some ⟨b, 0, none⟩), .agg #[.int .i64 0, .int .i64 (i : Int)]] w fun r w' => r = .returned (.tuple #[]) ∧ ∃ bv' sv', PS w' base b bv' sv' (L.eraseIdx i) ∧ Chg (Foot b bv sv) w w' ∧ ∀ k, Foot b bv' sv' k → Foot b bv sv k := by
  have hne : L ≠ [] := by intro e; rw [e] at hm; simp at hm
  obtain ⟨hh, cb, g, c, rfl, rfl, hB, hS, hnc, hcb, hbh, hbg, hhg⟩ := h.some hne
  obtain ⟨n, hn⟩ : ∃ n, n = L.length := ⟨_, rfl⟩
  have hB' := hB
  have hS' := hS
  rw [← hn] at hS hnc hi hm h18 hB ⊢
  have hbl : b < w.heap.size := h.row.lt
  have hhl : hh < w.heap.size := (hB.lt hh rfl).2
  have hgl : g < w.heap.size := (hS.lt g rfl).2
  have hb0 : w.cell? ⟨b, 0, none⟩ = some (.slice (some ⟨hh, 0, none⟩) 1 cb) := h.row.cell 0
  have hb1 : w.cell? ⟨hh, 0, none⟩ = some (.slice (some ⟨g, 0, none⟩) n c) := owns_cell0 hB
  have hle : (L.eraseIdx i).length = m := by rw [List.length_eraseIdx_of_lt (by omega)]; omega
  obtain ⟨L', hL'⟩ : ∃ L', L' = L.eraseIdx i := ⟨_, rfl⟩
  rw [← hL'] at hle ⊢
  have HROW := hide h.row
  have HBB := hide h.bb
  have HB := hide hB
  have HS := hide hS
  have HN := hide hn
  have HM := hide hm
  have HL := hide hL'
  have HLE := hide hle
  have hin : (i : Int) < (n : Int) := by omega
  have hw1 : IntKind.i64.wrap ((i : Int) + 1) = (i : Int) + 1 := by rw [IntKind.wrap_i64]; omega
  clear h hB hS hB' hS' hn hm hne hL' hle
  go_enter Yba.func22, Yba.ntmps22
  go_wp2_with fail
  go_region_held3 (fun w' => w.heap.size < w'.heap.size ∧ w'.cell? ⟨w.heap.size, 0, none⟩ = some (.int .i64 0) ∧ w'.cell? ⟨w.heap.size, 1, none⟩ = some (.int .i64 (i : Int)) ∧ w'.cell? ⟨b, 0, none⟩ = some (.slice (some ⟨hh, 0, none⟩) 1 cb) ∧ w'.cell? ⟨hh, 0, none⟩ = some (.slice (some ⟨g, 0, none⟩) n c))
    (first | (refine ⟨by simp, by simp, by simp, bsome ((Below.refl _ _).alloc (Nat.le_refl _) _).drew (Nat.le_refl _) hb0, bsome ((Below.refl _ _).alloc (Nat.le_refl _) _).drew (Nat.le_refl _) hb1⟩) | (go_split_ands; refine ⟨by have := hg2.size; omega, gsome hg2 ?_ (by simp; omega), gsome hg2 ?_ (by simp; omega), gsome hg2 ?_ (by simp; omega), gsome hg2 ?_ (by simp; omega)⟩ <;> assumption))
    (first
    | (go_at_call 31; refine (del_any base g n m c i L _ (by exact HS.out.alloc _) hi HM.out h18).mono ?_; rintro r w2 ⟨rfl, hown2, hg2⟩))
  rename_i hHeld
  clear hb0 hb1
  obtain ⟨hsz, hp0, hp1, hb0, hb1⟩ := hHeld
  have hB2 : w2.ownsRow base 97 1 (.slice (some ⟨hh, 0, none⟩) 1 cb) 1 [.slice (some ⟨g, 0, none⟩) n c] := World.ownsRow.kept (w := (w.alloc (.cells #[.int .i64 0, .int .i64 (i : Int)] 89)).drew) (HB.out.alloc _) hg2 (.inr (by simp [Value.ownBlock]; omega))
  have hrow2 : RowAt w2 b 83 [.slice (some ⟨hh, 0, none⟩) 1 cb] := RowAt.grown (w := (w.alloc (.cells #[.int .i64 0, .int .i64 (i : Int)] 89)).drew) (HROW.out.alloc _) hg2 (by simp; omega)
  have hchg : Chg (Foot b (.slice (some ⟨hh, 0, none⟩) 1 cb) (.slice (some ⟨g, 0, none⟩) n c)) w w2 :=
    Chg.trans (F1 := fun k => k = g) ((Chg.refl _ _).alloc (.cells #[.int .i64 0, .int .i64 (i : Int)] 89)).drew (Chg.of_grown hg2 (fun k e => .inl (by cases e; rfl))) (fun k e => .inl (.inr (.inr (by cases e; rfl))))
  have HB2 := hide hB2
  have HROW2 := hide hrow2
  have HCHG := hide hchg
  have HOWN2 := hide hown2
  have hbf := hrow2.frozen 0
  have hhf := owns_frozen hB2 0
  clear hB2 hrow2 hchg hown2 hg2
  by_cases hm0 : m = 0
  · subst hm0
    have hw2 : IntKind.i64.wrap 1 = 1 := by decide
    go_wp2_with fail
    go_region_with (go_at_call 32; refine (delB_any base hh cb _ _ (by exact HB2.out)).mono ?_; rintro r w3 ⟨rfl, hown3, hg3⟩; have hb3 := gsome (a := ⟨b, 0, none⟩) hg3 (by exact hb0) (by simp; omega); have hf3 := (RowAt.grown (w := w2.drew) HROW2.out hg3 (by simp; omega)).frozen 0)
    all_goals
      go_wp2_with fail
      refine bodyPost_ret (results_none rfl _ _ _) rfl ?_
      exact ⟨rfl, rm_end0 hbh HBB.out HROW2.out HCHG.out hown3 hg3 (List.length_eq_zero_iff.1 HLE.out)⟩
  · have hmi : ((m : Int) == 0) = false := by simp; omega
    have hml : ¬ (m : Int) = 0 := by omega
    go_wp2_with fail
    have X : (fun w' : World => w'.cell? ⟨w.heap.size, 0, none⟩ = some (.int .i64 0) ∧ w'.cell? ⟨b, 0, none⟩ = some (.slice (some ⟨hh, 0, none⟩) 1 cb)) (w2.setCell ⟨hh, 0, none⟩ (.slice (some ⟨g, 0, none⟩) m c)).drew :=
      ⟨(cfar (by simp; omega)).trans hp0, (cfar (by simp; omega)).trans hb0⟩
    go_region_held3 (fun w' => w'.cell? ⟨w.heap.size, 0, none⟩ = some (.int .i64 0) ∧ w'.cell? ⟨b, 0, none⟩ = some (.slice (some ⟨hh, 0, none⟩) 1 cb)) (first | go_keep | exact X) (fail)
    clear X
    refine bodyPost_end (results_none rfl _ _ _) rfl ?_
    exact ⟨rfl, rm_end1 hbh hhg HBB.out HROW2.out HCHG.out HB2.out HLE.out hm0 (by rw [HL.out]; exact HOWN2.out)⟩
end Go.Proofs.Ybulkdaie.Scr
