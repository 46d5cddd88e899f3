/-
  runList's insert: at the end, and ahead of a span.
-/
import Derived.Test.YbulkdaieS13
namespace Go.Proofs.Ybulkdaie.Scr
open Go.RowKit
set_option linter.unusedVariables false
set_option linter.unusedSimpArgs false

theorem ins_end1 {w W w3 : World} {base b hh cb g n c g' cap m : Nat} {L' : List Sp} {A : Obj} (hbase : base ≤ w.heap.size) (hbb : base ≤ b) (hWb : Below w.heap.size w W) (hbl : b < w.heap.size) (hhl : hh < w.heap.size) (hbh : b ≠ hh) (hbg : b ≠ g) (hhg : hh ≠ g)
    (hB : W.ownsRow base 97 1 (.slice (some ⟨hh, 0, none⟩) 1 cb) 1 [.slice (some ⟨g, 0, none⟩) n c]) (hR : RowAt W b 83 [.slice (some ⟨hh, 0, none⟩) 1 cb])
    (hown : w3.ownsRow base 67 3 (.slice (some ⟨g', 0, none⟩) m cap) m (spCells L')) (hm : L'.length = m) (hm0 : m ≠ 0) (hg : (W.alloc A).drew.grownBy w3 (some g)) (hat : g' = g ∨ W.heap.size ≤ g') :
    ∃ bv' sv', PS (w3.setCell ⟨hh, 0, none⟩ (.slice (some ⟨g', 0, none⟩) m cap)) base b bv' sv' L' ∧ Chg (Foot b (.slice (some ⟨hh, 0, none⟩) 1 cb) (.slice (some ⟨g, 0, none⟩) n c)) w (w3.setCell ⟨hh, 0, none⟩ (.slice (some ⟨g', 0, none⟩) m cap)) ∧ ∀ k, Foot b bv' sv' k → Foot b (.slice (some ⟨hh, 0, none⟩) 1 cb) (.slice (some ⟨g, 0, none⟩) n c) k ∨ w.heap.size ≤ k := by
  have hsz := hWb.size
  have hR3 : RowAt w3 b 83 [.slice (some ⟨hh, 0, none⟩) 1 cb] := row2 hR hg (by simp; omega)
  have hB3 : w3.ownsRow base 97 1 (.slice (some ⟨hh, 0, none⟩) 1 cb) 1 [.slice (some ⟨g, 0, none⟩) n c] := World.ownsRow.kept (w := (W.alloc A).drew) (hB.alloc A) hg (.inr (by simp [Value.ownBlock]; omega))
  have hgh : g' ≠ hh := by omega
  have hc1 : Chg (fun k => k = hh) w3 (w3.setCell ⟨hh, 0, none⟩ (.slice (some ⟨g', 0, none⟩) m cap)) := (Chg.refl _ _).setCell _ (.inl rfl)
  refine ⟨.slice (some ⟨hh, 0, none⟩) 1 cb, .slice (some ⟨g', 0, none⟩) m cap, ⟨RowAt.chg (F := fun k => k = hh) hR3 hc1 hbh, hbb, .inr ⟨?_, owns_set0 hB3, ?_⟩⟩, ?_, ?_⟩
  · intro e; rw [e] at hm; simp at hm; omega
  · rw [hm]
    exact owns_chg (F := fun k => k = hh) hown hc1 (fun k hk => by simp [Value.ownBlock] at hk; omega)
  · refine Chg.setCell ?_ _ (.inl (.inr (.inl rfl)))
    exact Chg.trans (F1 := fun k => k = g) ((Chg.of_below hWb).alloc A).drew (Chg.of_grown hg (fun k e => .inl (by cases e; rfl))) (fun k e => .inl (.inr (.inr (by cases e; rfl))))
  · rintro k (h | h | h)
    · exact .inl (.inl h)
    · exact .inl (.inr (.inl h))
    · simp [Value.ownBlock] at h
      rcases hat with h1 | h1
      · left; right; right; simp [Value.ownBlock]; omega
      · right; omega

theorem frz2 {W w3 : World} {A : Obj} {base hh cb g : Nat} {u : Value} (hB : W.ownsRow base 97 1 (.slice (some ⟨hh, 0, none⟩) 1 cb) 1 [u]) (hg : (W.alloc A).drew.grownBy w3 (some g)) (hne : hh ≠ g) : w3.frozen? ⟨hh, 0, none⟩ = false :=
  owns_frozen (World.ownsRow.kept (w := (W.alloc A).drew) (hB.alloc A) hg (.inr (by simp [Value.ownBlock]; omega))) 0
theorem cel2 {W w3 : World} {A : Obj} {base hh cb g : Nat} {u : Value} (hB : W.ownsRow base 97 1 (.slice (some ⟨hh, 0, none⟩) 1 cb) 1 [u]) (hg : (W.alloc A).drew.grownBy w3 (some g)) (hne : hh ≠ g) : w3.cell? ⟨hh, 0, none⟩ = some u :=
  owns_cell0 (World.ownsRow.kept (w := (W.alloc A).drew) (hB.alloc A) hg (.inr (by simp [Value.ownBlock]; omega)))

theorem celb {W w3 : World} {A : Obj} {b g : Nat} {u : Value} (hR : RowAt W b 83 [u]) (hg : (W.alloc A).drew.grownBy w3 (some g)) (hne : b ≠ g) : w3.cell? ⟨b, 0, none⟩ = some u :=
  (row2 hR hg (by simpa using hne)).cell 0

theorem ins_any (base g n c i vb : Nat) (L : List Sp) (s : Sp) (w : World) (hown : w.ownsRow base 67 3 (.slice (some ⟨g, 0, none⟩) n c) n (spCells L)) (hi : i < n) (hn18 : n ≤ 18) (hv : RowAt w vb 67 (spc s)) (hvg : vb ≠ g) (hbase : base ≤ w.heap.size) :
    Calls Yba.prog 26 #[.slice (some ⟨g, 0, none⟩) n c, .int .i64 (i : Int), .slice (some ⟨vb, 0, none⟩) 1 1] w fun r w' => ∃ g' c', r = .returned (.slice (some ⟨g', 0, none⟩) (n + 1) c') ∧ w'.ownsRow base 67 3 (.slice (some ⟨g', 0, none⟩) (n + 1) c') (n + 1) (spCells (L.take i ++ s :: L.drop i)) ∧ w.grownBy w' (some g) ∧ (g' = g ∨ w.heap.size ≤ g') := by
  by_cases hr : n + 1 ≤ c
  · refine (ins_room base g n c i vb L s w hown hi hn18 hr hv hvg).mono ?_
    rintro r w' ⟨h1, h2, h3⟩
    exact ⟨g, c, h1, h2, h3, .inl rfl⟩
  · refine (ins_grow base g n c i vb L s w hown hi hn18 (by omega) hv hbase).mono ?_
    rintro r w' ⟨G, h1, h2, h3⟩
    exact ⟨_, G, h1, h2, h3, .inr (Nat.le_refl _)⟩

theorem insert_mid (base b : Nat) (bv sv : Value) (L : List Sp) (s : Sp) (i : Nat) (w : World) (h : PS w base b bv sv L) (hne : L ≠ []) (hix : i < L.length) (h18 : L.length ≤ 18) (hbase : base ≤ w.heap.size) :
    Calls Yba.prog 18 #[.pointer (some ⟨b, 0, none⟩), .agg #[.int .i64 0, .int .i64 (i : Int)], spn s.e s.lo s.hi] w fun r w' => r = .returned (.tuple #[]) ∧ ∃ bv' sv', PS w' base b bv' sv' (L.take i ++ s :: L.drop i) ∧ Chg (Foot b bv sv) w w' ∧ ∀ k, Foot b bv' sv' k → Foot b bv sv k ∨ w.heap.size ≤ k := by
  obtain ⟨hh, cb, g, c, rfl, rfl, hB, hS, hnc, hcb, hbh, hbg, hhg⟩ := h.some hne
  obtain ⟨n, hn⟩ : ∃ n, n = L.length := ⟨_, rfl⟩
  rw [← hn] at hS hnc h18 hB hix ⊢
  have hbl : b < w.heap.size := h.row.lt
  have hhl : hh < w.heap.size := (hB.lt hh rfl).2
  have hgl : g < w.heap.size := (hS.lt g rfl).2
  have hb0 : w.cell? ⟨b, 0, none⟩ = some (.slice (some ⟨hh, 0, none⟩) 1 cb) := h.row.cell 0
  have hb1 : w.cell? ⟨hh, 0, none⟩ = some (.slice (some ⟨g, 0, none⟩) n c) := owns_cell0 hB
  have HROW := hide h.row
  have HBB := hide h.bb
  have HB := hide hB
  have HS := hide hS
  have HN := hide hn
  have hn256 : (n : Int) < 256 := by omega
  clear h hB hS hn hne
  unfold spn
  have ha1 := fun o => acell hb0 o
  have ha2 := fun o o' => acell (ha1 o) o'
  have hc1 := fun o => acell hb1 o
  have hc2 := fun o o' => acell (hc1 o) o'
  obtain ⟨L', hL'⟩ : ∃ L', L' = L.take i ++ s :: L.drop i := ⟨_, rfl⟩
  have hl' : L'.length = n + 1 := by rw [hL']; have := HN.out; simp; omega
  rw [← hL']
  have HL := hide hL'
  have HLL := hide hl'
  have hne256 : ((n : Int) == 256) = false := by simp; omega
  clear hL' hl'
  go_enter Yba.func18, Yba.ntmps18
  go_wp2_with fail
  go_quiet (fail)
  revert nq
  intro nq0
  go_wp2_with fail
  go_quiet (fail)
  go_wp2_with fail
  have hWb : Below w.heap.size w (((w.alloc (Obj.cells #[Value.int IntKind.i64 0, Value.int IntKind.i64 ↑i] 89)).alloc (Obj.cells #[Value.int IntKind.u64 ↑s.e, Value.int IntKind.u64 ↑s.lo, Value.int IntKind.u64 ↑s.hi] 67)).drewN (nq0 + nq)) := below_drewN (((Below.refl _ _).alloc (Nat.le_refl _) _).alloc (by simp) _) _
  have hWs : (((w.alloc (Obj.cells #[Value.int IntKind.i64 0, Value.int IntKind.i64 ↑i] 89)).alloc (Obj.cells #[Value.int IntKind.u64 ↑s.e, Value.int IntKind.u64 ↑s.lo, Value.int IntKind.u64 ↑s.hi] 67)).drewN (nq0 + nq)).heap.size = w.heap.size + 2 := by simp
  have hWr : RowAt (((w.alloc (Obj.cells #[Value.int IntKind.i64 0, Value.int IntKind.i64 ↑i] 89)).alloc (Obj.cells #[Value.int IntKind.u64 ↑s.e, Value.int IntKind.u64 ↑s.lo, Value.int IntKind.u64 ↑s.hi] 67)).drewN (nq0 + nq)) (w.heap.size + 1) 67 (spc s) := heap_alloc2_new _ _ _
  have hWp : RowAt (((w.alloc (Obj.cells #[Value.int IntKind.i64 0, Value.int IntKind.i64 ↑i] 89)).alloc (Obj.cells #[Value.int IntKind.u64 ↑s.e, Value.int IntKind.u64 ↑s.lo, Value.int IntKind.u64 ↑s.hi] 67)).drewN (nq0 + nq)) w.heap.size 89 [.int .i64 0, .int .i64 ↑i] := RowAt.alloc (RowAt.new w [.int .i64 0, .int .i64 ↑i] 89) _
  generalize (((w.alloc (Obj.cells #[Value.int IntKind.i64 0, Value.int IntKind.i64 ↑i] 89)).alloc (Obj.cells #[Value.int IntKind.u64 ↑s.e, Value.int IntKind.u64 ↑s.lo, Value.int IntKind.u64 ↑s.hi] 67)).drewN (nq0 + nq)) = W at hWb hWs hWr hWp ⊢
  have hB2 : W.ownsRow base 97 1 (.slice (some ⟨hh, 0, none⟩) 1 cb) 1 [.slice (some ⟨g, 0, none⟩) n c] := owns_chg (F := fun _ => False) HB.out (Chg.of_below hWb) (fun _ _ h => h)
  have hS2 : W.ownsRow base 67 3 (.slice (some ⟨g, 0, none⟩) n c) n (spCells L) := owns_chg (F := fun _ => False) HS.out (Chg.of_below hWb) (fun _ _ h => h)
  have hR : RowAt W b 83 [.slice (some ⟨hh, 0, none⟩) 1 cb] := RowAt.chg (F := fun _ => False) HROW.out (Chg.of_below hWb) (fun h => h)
  clear ha1 ha2 hc1 hc2 hb0 hb1
  have hb0 : W.cell? ⟨b, 0, none⟩ = some (.slice (some ⟨hh, 0, none⟩) 1 cb) := hR.cell 0
  have hb1 : W.cell? ⟨hh, 0, none⟩ = some (.slice (some ⟨g, 0, none⟩) n c) := owns_cell0 hB2
  have hr0 : W.cell? ⟨w.heap.size + 1, 0, none⟩ = some (.int .u64 (s.e : Int)) := hWr.cell 0
  have hr1 : W.cell? ⟨w.heap.size + 1, 1, none⟩ = some (.int .u64 (s.lo : Int)) := hWr.cell 1
  have hr2 : W.cell? ⟨w.heap.size + 1, 2, none⟩ = some (.int .u64 (s.hi : Int)) := hWr.cell 2
  have hp0 : W.cell? ⟨w.heap.size, 0, none⟩ = some (.int .i64 0) := hWp.cell 0
  have hhf := owns_frozen hB2 0
  have HB2 := hide hB2
  have HS2 := hide hS2
  have HR := hide hR
  have HWB := hide hWb
  have HWS := hide hWs
  clear hB2 hS2 hR hWb hWs hWr hWp
  go_region_held3 (fun w' => w'.cell? ⟨b, 0, none⟩ = some (.slice (some ⟨hh, 0, none⟩) 1 cb) ∧ w'.cell? ⟨w.heap.size, 0, none⟩ = some (.int .i64 0) ∧ w'.cell? ⟨w.heap.size + 1, 0, none⟩ = some (.int .u64 (s.e : Int)) ∧ w'.cell? ⟨w.heap.size + 1, 1, none⟩ = some (.int .u64 (s.lo : Int)) ∧ w'.cell? ⟨w.heap.size + 1, 2, none⟩ = some (.int .u64 (s.hi : Int)))
    (first | (exact ⟨hb0, hp0, hr0, hr1, hr2⟩) | (exact ⟨acell hb0 _, acell hp0 _, acell hr0 _, acell hr1 _, acell hr2 _⟩) | (go_split_ands; refine ⟨gsome hg3 ?_ (by simp; omega), gsome hg3 ?_ (by simp; omega), gsome hg3 ?_ (by simp; omega), gsome hg3 ?_ (by simp; omega), gsome hg3 ?_ (by simp; omega)⟩ <;> assumption) | (go_split_ands; refine ⟨(cfar (by simp; omega)).trans ?_, (cfar (by simp; omega)).trans ?_, (cfar (by simp; omega)).trans ?_, (cfar (by simp; omega)).trans ?_, (cfar (by simp; omega)).trans ?_⟩ <;> assumption))
    (first
    | (go_at_call 26; refine (ins_any base g n c i W.heap.size L s _ (by exact HS2.out.alloc _) hix h18 (by exact RowAt.new W (spc s) 67) (by have := HWS.out; omega) (by have := HWS.out; simp; omega)).mono ?_; rintro r w3 ⟨g', c', rfl, hown3, hg3, hat3⟩; have hb3 : w3.cell? ⟨hh, 0, none⟩ = some (.slice (some ⟨g, 0, none⟩) n c) := gsome hg3 (by exact acell hb1 _) (by simp; omega); have hf3 : w3.frozen? ⟨hh, 0, none⟩ = false := frz2 HB2.out hg3 hhg))
  all_goals
    refine bodyPost_end (results_none rfl _ _ _) rfl ?_
    exact ⟨rfl, ins_end1 hbase HBB.out HWB.out hbl hhl hbh hbg hhg HB2.out HR.out (by rw [HL.out]; exact hown3) HLL.out (by omega) hg3 (by rcases hat3 with h | h; exact .inl h; exact .inr (by simp at h; omega))⟩
set_option maxHeartbeats 4000000 in
theorem insert_end (base b : Nat) (bv sv : Value) (L : List Sp) (s : Sp) (w : World) (h : PS w base b bv sv L) (hne : L ≠ []) (h18 : L.length ≤ 18) (hbase : base ≤ w.heap.size) :
    Calls Yba.prog 18 #[.pointer (some ⟨b, 0, none⟩), .agg #[.int .i64 1, .int .i64 0], spn s.e s.lo s.hi] w fun r w' => r = .returned (.tuple #[]) ∧ ∃ bv' sv', PS w' base b bv' sv' (L ++ [s]) ∧ Chg (Foot b bv sv) w w' ∧ ∀ k, Foot b bv' sv' k → Foot b bv sv k ∨ w.heap.size ≤ k := by
  obtain ⟨hh, cb, g, c, rfl, rfl, hB, hS, hnc, hcb, hbh, hbg, hhg⟩ := h.some hne
  obtain ⟨n, hn⟩ : ∃ n, n = L.length := ⟨_, rfl⟩
  rw [← hn] at hS hnc h18 hB ⊢
  have hbl : b < w.heap.size := h.row.lt
  have hhl : hh < w.heap.size := (hB.lt hh rfl).2
  have hgl : g < w.heap.size := (hS.lt g rfl).2
  have hb0 : w.cell? ⟨b, 0, none⟩ = some (.slice (some ⟨hh, 0, none⟩) 1 cb) := h.row.cell 0
  have hb1 : w.cell? ⟨hh, 0, none⟩ = some (.slice (some ⟨g, 0, none⟩) n c) := owns_cell0 hB
  have HROW := hide h.row
  have HBB := hide h.bb
  have HB := hide hB
  have HS := hide hS
  have HN := hide hn
  have hn256 : (n : Int) < 256 := by omega
  clear h hB hS hn hne
  unfold spn
  have ha1 := fun o => acell hb0 o
  have ha2 := fun o o' => acell (ha1 o) o'
  have hc1 := fun o => acell hb1 o
  have hc2 := fun o o' => acell (hc1 o) o'
  obtain ⟨L', hL'⟩ : ∃ L', L' = L ++ [s] := ⟨_, rfl⟩
  have hl' : L'.length = n + 1 := by rw [hL']; have := HN.out; simp; omega
  rw [← hL']
  have HL := hide hL'
  have HLL := hide hl'
  clear hL' hl'
  go_enter Yba.func18, Yba.ntmps18
  go_wp2_with fail
  go_quiet (fail)
  go_wp2_with fail
  have hWb : Below w.heap.size w (((w.alloc (Obj.cells #[Value.int IntKind.i64 1, Value.int IntKind.i64 0] 89)).alloc (Obj.cells #[Value.int IntKind.u64 ↑s.e, Value.int IntKind.u64 ↑s.lo, Value.int IntKind.u64 ↑s.hi] 67)).drewN nq) := below_drewN (((Below.refl _ _).alloc (Nat.le_refl _) _).alloc (by simp) _) _
  have hWs : (((w.alloc (Obj.cells #[Value.int IntKind.i64 1, Value.int IntKind.i64 0] 89)).alloc (Obj.cells #[Value.int IntKind.u64 ↑s.e, Value.int IntKind.u64 ↑s.lo, Value.int IntKind.u64 ↑s.hi] 67)).drewN nq).heap.size = w.heap.size + 2 := by simp
  have hWr : RowAt (((w.alloc (Obj.cells #[Value.int IntKind.i64 1, Value.int IntKind.i64 0] 89)).alloc (Obj.cells #[Value.int IntKind.u64 ↑s.e, Value.int IntKind.u64 ↑s.lo, Value.int IntKind.u64 ↑s.hi] 67)).drewN nq) (w.heap.size + 1) 67 (spc s) := heap_alloc2_new _ _ _
  have hWp : RowAt (((w.alloc (Obj.cells #[Value.int IntKind.i64 1, Value.int IntKind.i64 0] 89)).alloc (Obj.cells #[Value.int IntKind.u64 ↑s.e, Value.int IntKind.u64 ↑s.lo, Value.int IntKind.u64 ↑s.hi] 67)).drewN nq) w.heap.size 89 [.int .i64 1, .int .i64 0] := RowAt.alloc (RowAt.new w [.int .i64 1, .int .i64 0] 89) _
  generalize (((w.alloc (Obj.cells #[Value.int IntKind.i64 1, Value.int IntKind.i64 0] 89)).alloc (Obj.cells #[Value.int IntKind.u64 ↑s.e, Value.int IntKind.u64 ↑s.lo, Value.int IntKind.u64 ↑s.hi] 67)).drewN nq) = W at hWb hWs hWr hWp ⊢
  have hB2 : W.ownsRow base 97 1 (.slice (some ⟨hh, 0, none⟩) 1 cb) 1 [.slice (some ⟨g, 0, none⟩) n c] := owns_chg (F := fun _ => False) HB.out (Chg.of_below hWb) (fun _ _ h => h)
  have hS2 : W.ownsRow base 67 3 (.slice (some ⟨g, 0, none⟩) n c) n (spCells L) := owns_chg (F := fun _ => False) HS.out (Chg.of_below hWb) (fun _ _ h => h)
  have hR : RowAt W b 83 [.slice (some ⟨hh, 0, none⟩) 1 cb] := RowAt.chg (F := fun _ => False) HROW.out (Chg.of_below hWb) (fun h => h)
  clear ha1 ha2 hc1 hc2 hb0 hb1
  have hb0 : W.cell? ⟨b, 0, none⟩ = some (.slice (some ⟨hh, 0, none⟩) 1 cb) := hR.cell 0
  have hb1 : W.cell? ⟨hh, 0, none⟩ = some (.slice (some ⟨g, 0, none⟩) n c) := owns_cell0 hB2
  have hr0 : W.cell? ⟨w.heap.size + 1, 0, none⟩ = some (.int .u64 (s.e : Int)) := hWr.cell 0
  have hr1 : W.cell? ⟨w.heap.size + 1, 1, none⟩ = some (.int .u64 (s.lo : Int)) := hWr.cell 1
  have hr2 : W.cell? ⟨w.heap.size + 1, 2, none⟩ = some (.int .u64 (s.hi : Int)) := hWr.cell 2
  have hwz : IntKind.i64.wrap 0 = 0 := by decide
  have ha1 := fun o => acell hb0 o
  have hc1 := fun o => acell hb1 o
  have HB2 := hide hB2
  have HS2 := hide hS2
  have HR := hide hR
  have HWB := hide hWb
  have HWS := hide hWs
  clear hB2 hS2 hR hWb hWs hWr hWp
  go_region_law (refine step_append_lies _ (by rfl) _ _ 97 (by rfl) base 67 Yba.t67 (.agg #[.int .u64 0, .int .u64 0, .int .u64 0]) 3 24 Yba.underlying97 (by kernel_rfl) (by kernel_rfl) rfl rfl rfl (by decide) (.slice (some ⟨g, 0, none⟩) n c) n (spCells L) (by rfl) (by exact HS2.out.alloc _) ⟨W.heap.size, 0, none⟩ 1 1 (spc s) (by simp [Act.eval, Act.put]) rfl (World.news_of_block (cs := (spc s).toArray) (heap_alloc_new _ _)) (spc_one s) (by decide) (by unfold maxLen; omega) (by omega) (by have := HWS.out; simp; omega) (W.heap.size + 1) (by simp) ?_; intro g' cap w3 hown3 hg3 hat3 hlt3; have hb3 := cel2 HB2.out hg3 hhg; have hf3 := frz2 HB2.out hg3 hhg; have hbb3 : w3.cell? ⟨b, 0, none⟩ = some (.slice (some ⟨hh, 0, none⟩) 1 cb) := celb HR.out hg3 hbg)
  all_goals
    go_wp2_with fail
    refine bodyPost_ret (results_none rfl _ _ _) rfl ?_
    exact ⟨rfl, ins_end1 hbase HBB.out HWB.out hbl hhl hbh hbg hhg HB2.out HR.out (by rw [HL.out, spCells_append]; simpa [spCells] using hown3) HLL.out (by omega) hg3 (by rcases hat3 with h | h; (left; simp [Value.ownBlock] at h; omega); (right; omega))⟩

end Go.Proofs.Ybulkdaie.Scr
