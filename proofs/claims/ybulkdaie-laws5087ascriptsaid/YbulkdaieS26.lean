/-
  checker.start.
-/
import Derived.Test.YbulkdaieS25
namespace Go.Proofs.Ybulkdaie.Scr
open Go.RowKit Go.Maps
set_option linter.unusedVariables false
set_option linter.unusedSimpArgs false

def ckCells (m1 m2 m3 m4 : Nat) : List Value := [.pointer none, .int .i64 0, .map (some m1), .map (some m2), .map (some m3), .slice none 0 0, .map (some m4)]
def waitCells (line : Nat) (s1 s2 : ByteArray) (ee cc : Nat) : List Value := [.int .i64 (line : Int), .string s1, .string s2, .int .u64 (ee : Int), .int .u64 (cc : Int), .int .i64 0, .int .u64 0, .int .i64 0, .pointer none, .bool false]
/-- An event's cells that are looked at. -/
structure EvAt (w : World) (g o line : Nat) (s1 s2 : ByteArray) (ee cc : Nat) : Prop where
  line_ : w.cell? ⟨g, o, none⟩ = some (.int .i64 (line : Int))
  node_ : w.cell? ⟨g, o + 3, none⟩ = some (.string s1)
  op_ : w.cell? ⟨g, o + 34, none⟩ = some (.string s2)
  ep_ : w.cell? ⟨g, o + 8, none⟩ = some (.int .u64 (ee : Int))
  ct_ : w.cell? ⟨g, o + 9, none⟩ = some (.int .u64 (cc : Int))

section
variable {X w2 w3 w4 : World} {A : Tags} {B m : Nat} {kt : TypeId} {tg : Nat} {lt : Nat → Lit} {κ : Nat → Nat} {wb : Nat → Nat} {N : Nat} {D : DataW Unit} {wl : Nat → Value}

theorem GL.mne (h : GL X A B m kt tg lt κ wb N D wl) {v0 : Value} (ht0 : ∀ k, v0.ownBlock = some k → A k = (tg, some (κ N))) : v0.ownBlock ≠ some m := fun e => by
  have := ht0 m e
  rw [h.tagm] at this
  simp at this

theorem push_end (h : GL X A B m kt tg lt κ wb N D wl) (hinj : ∀ i j, lt (κ i) = lt (κ j) → κ i = κ j) (K : Keyed Yba.prog kt) {key : Value} (hkey : keyOf Yba.prog kt key = some (lt (κ N))) {v0 : Value} {g cap : Nat}
    (hr0 : X.ownsRow B 57 1 v0 (idx κ (κ N) N).length (ptrs wb (idx κ (κ N) N))) (ht0 : ∀ k, v0.ownBlock = some k → A k = (tg, some (κ N))) (hc2 : Chg (fun k => k = m) X w2)
    (hown3 : w3.ownsRow B 57 1 (.slice (some ⟨g, 0, none⟩) ((idx κ (κ N) N).length + 1) cap) ((idx κ (κ N) N).length + 1) (ptrs wb (idx κ (κ N) N) ++ [.pointer (some ⟨wb N, 0, none⟩)]))
    (hg3 : w2.grownBy w3 v0.ownBlock) (hat3 : v0.ownBlock = some g ∨ X.heap.size ≤ g)
    (hmap4 : w4.ownsMap Yba.prog kt slElem m (N + 1) (D.put (lt (κ N)) (slD (.slice (some ⟨g, 0, none⟩) ((idx κ (κ N) N).length + 1) cap)))) (hg4 : w3.grownBy w4 (some m)) :
    ∃ D' wl', GL w4 (ext A X.heap.size (tg, some (κ N))) B m kt tg lt κ wb (N + 1) D' wl' ∧ Chg (fun k => (A k).1 = tg) X w4 := by
  have hml := h.own.lt
  have hgm : g ≠ m := by
    rcases hat3 with h1 | h1
    · intro e; rw [e] at h1; exact h.mne ht0 h1
    · omega
  have hc : Chg (fun k => k = m ∨ v0.ownBlock = some k) X w4 := by
    refine Chg.trans (F1 := fun k => k = m) (Chg.trans (F1 := fun k => v0.ownBlock = some k) (hc2.mono (fun k hk => .inl (.inl hk))) (Chg.of_grown hg3 (fun k e => .inl e)) (fun k hk => .inl (.inr hk))) (Chg.of_grown hg4 (fun k e => .inl (by cases e; rfl))) (fun k hk => .inl (.inl hk))
  refine ⟨_, _, h.push (A' := ext A X.heap.size (tg, some (κ N))) hinj K hkey hr0 ht0 (World.ownsRow.kept hown3 hg4 (.inr (by simp [Value.ownBlock]; exact hgm))) hmap4 hc ?_ (fun k hk => ext_old hk), hc.mono (fun k hk => ?_)⟩
  · rcases hat3 with h1 | h1
    · exact .inl h1.symm
    · right
      intro k hk
      simp [Value.ownBlock] at hk
      subst hk
      exact ext_new h1
  · rcases hk with hk | hk
    · left; rw [hk, h.tagm]
    · left; rw [ht0 k hk]
end

theorem s4of {w w' : World} {row : Option Nat} {a b : Nat} {i i0 i1 i2 : Nat} {v v0 v1 v2 : Value} (h : w.cell? ⟨a, i, none⟩ = some v ∧ w.cell? ⟨b, i0, none⟩ = some v0 ∧ w.cell? ⟨b, i1, none⟩ = some v1 ∧ w.cell? ⟨b, i2, none⟩ = some v2) (hg : w.grownBy w' row) (ha : some a ≠ row) (hb : some b ≠ row) :
    w'.cell? ⟨a, i, none⟩ = some v ∧ w'.cell? ⟨b, i0, none⟩ = some v0 ∧ w'.cell? ⟨b, i1, none⟩ = some v1 ∧ w'.cell? ⟨b, i2, none⟩ = some v2 :=
  ⟨hg.cell h.1 ha, hg.cell h.2.1 hb, hg.cell h.2.2.1 hb, hg.cell h.2.2.2 hb⟩

theorem chg_drew (w : World) : Chg (fun _ => False) w w.drew := ⟨rfl, rfl, rfl, Nat.le_refl _, fun _ _ _ => rfl⟩
theorem ext_ext {A : Tags} {s s' : Nat} {t : Nat × Option Nat} (h : s ≤ s') : ext (ext A s t) s' t = ext A s t := by
  funext k
  unfold ext
  split
  · rfl
  · rw [if_neg (by omega)]
theorem ext_lt {A : Tags} {s k : Nat} {t : Nat × Option Nat} (h : k < s) {x : Nat} (hx : (A k).1 = x) : (ext A s t k).1 = x := by rw [ext_old h]; exact hx

section
variable {Y wS wT : World} {A : Tags} {B m : Nat} {tg : Nat} {lt : Nat → Lit} {κ : Nat → Nat} {ps : Nat → Nat × Nat} {N : Nat} {D : DataW Unit} {sd : Nat → SD}
theorem set_add (h : GS Y A B m tg lt κ ps N N D sd) {D' : DataW Unit} {sd' : Nat → SD} (h1 : GS wS (ext A Y.heap.size (tg, some (κ N))) B m tg lt κ ps (N + 1) N D' sd') (hc1 : Chg (fun k => k = m) Y wS) {r : Ending}
    (hr : AddRes B (sd' N).b (sd' N).bv (sd' N).sv (sd' N).L (ps N).1 (ps N).2 wS r wT) : ∃ D' sd'', GS wT (ext A Y.heap.size (tg, some (κ N))) B m tg lt κ ps (N + 1) (N + 1) D' sd'' ∧ Chg (fun k => (A k).1 = tg) Y wT := by
  obtain ⟨sd'', h2, hc2⟩ := h1.add (by omega) hr (A' := ext A Y.heap.size (tg, some (κ N))) (fun k _ => rfl) (fun k hk => ext_new (Nat.le_trans hc1.size hk))
  refine ⟨D', sd'', h2, Chg.trans (hc1.mono (fun k hk => .inl (by rw [show k = m from hk, h.tagm]))) hc2 (fun k hk => ?_)⟩
  rcases Nat.lt_or_ge k Y.heap.size with h3 | h3
  · left
    have : (ext A Y.heap.size (tg, some (κ N)) k).1 = tg := hk
    rwa [ext_old h3] at this
  · exact .inr h3
end

/-- All that the checker holds behind N events. -/
structure St (w : World) (A : Tags) (B cB m1 m2 m3 m4 : Nat) (ltA ltO ltN : Nat → Lit) (κA κO κN : Nat → Nat) (ps : Nat → Nat × Nat) (wb : Nat → Nat) (N : Nat) (D1 D2 D3 D4 : DataW Unit) (wl rl : Nat → Value) (sw su : Nat → SD) : Prop where
  ck : RowAt w cB 56 (ckCells m1 m2 m3 m4)
  tck : (A cB).1 = 0
  wait : GL w A B m1 46 1 ltA κA wb N D1 wl
  run : GL w A B m4 48 2 ltO κO wb N D4 rl
  sw_ : GS w A B m2 3 ltN κN ps N N D2 sw
  su_ : GS w A B m3 4 ltN κN ps N N D3 su

theorem EvAt.chg {F : Nat → Prop} {w w' : World} {g o line : Nat} {s1 s2 : ByteArray} {ee cc : Nat} (h : EvAt w g o line s1 s2 ee cc) (hc : Chg F w w') (hn : ¬ F g) : EvAt w' g o line s1 s2 ee cc :=
  ⟨csome hc h.line_ hn, csome hc h.node_ hn, csome hc h.op_ hn, csome hc h.ep_ hn, csome hc h.ct_ hn⟩

set_option maxHeartbeats 4000000 in
set_option maxRecDepth 100000 in
theorem start_any {A : Tags} {B cB m1 m2 m3 m4 : Nat} {ltA ltO ltN : Nat → Lit} {κA κO κN : Nat → Nat} {ps : Nat → Nat × Nat} {wb : Nat → Nat} {N : Nat} {D1 D2 D3 D4 : DataW Unit} {wl rl : Nat → Value} {sw su : Nat → SD} (ge o line : Nat) (s1 s2 : ByteArray) (ee cc : Nat) (w : World)
    (hst : St w A B cB m1 m2 m3 m4 ltA ltO ltN κA κO κN ps wb N D1 D2 D3 D4 wl rl sw su) (hev : EvAt w ge o line s1 s2 ee cc) (htge : (A ge).1 = 0)
    (hiA : ∀ i j, ltA (κA i) = ltA (κA j) → κA i = κA j) (hiO : ∀ i j, ltO (κO i) = ltO (κO j) → κO i = κO j) (hiN : ∀ i j, ltN (κN i) = ltN (κN j) → κN i = κN j)
    (hkA : keyOf Yba.prog 46 (.agg #[.string s1, .int .u64 (ee : Int), .int .u64 (cc : Int)]) = some (ltA (κA N))) (hkO : keyOf Yba.prog 48 (.agg #[.string s1, .string s2]) = some (ltO (κO N))) (hkN : keyOf Yba.prog 9 (.string s1) = some (ltN (κN N)))
    (hps : ps N = (ee, cc)) (hee : ee ≤ 2) (hcc : cc ≤ 5) (hN : N ≤ 400) (hB : B ≤ w.heap.size) (hwN : wb N = w.heap.size) :
    Calls Yba.prog 8 #[.pointer (some ⟨cB, 0, none⟩), .pointer (some ⟨ge, o, none⟩)] w fun r w' => r = .returned (.tuple #[]) ∧ ∃ A' D1' D2' D3' D4' wl' rl' sw' su', St w' A' B cB m1 m2 m3 m4 ltA ltO ltN κA κO κN ps wb (N + 1) D1' D2' D3' D4' wl' rl' sw' su' ∧
      RowAt w' w.heap.size 59 (waitCells line s1 s2 ee cc) ∧ (A' w.heap.size).1 = 0 ∧ Chg (fun k => (A k).1 ≠ 0) w w' ∧ ∀ k, k < w.heap.size → A' k = A k := by
  have HEV := hide hev
  obtain ⟨he0, he1, he2, he3, he4⟩ := hev
  have hgl : ge < w.heap.size := World.block_lt_of_cell? w _ he0
  have HST := hide hst
  have HKA := hide hkA
  have HKO := hide hkO
  have HKN := hide hkN
  have HPS := hide hps
  have HWN := hide hwN
  have HIA := hide hiA
  have HIO := hide hiO
  have HIN := hide hiN
  clear hst hkA hkO hkN hps hwN hiA hiO hiN
  go_enter Yba.func8, Yba.ntmps8
  go_wp2_with fail
  go_cut [4] (fun v W1 => v = .pointer (some ⟨w.heap.size, 0, none⟩) ∧ Below w.heap.size w W1 ∧ RowAt W1 w.heap.size 59 (waitCells line s1 s2 ee cc))
  case first =>
    go_region_held3 (fun w' => w'.cell? ⟨ge, o, none⟩ = some (.int .i64 (line : Int)) ∧ w'.cell? ⟨ge, o + 3, none⟩ = some (.string s1) ∧ w'.cell? ⟨ge, o + 34, none⟩ = some (.string s2) ∧ w'.cell? ⟨ge, o + 8, none⟩ = some (.int .u64 (ee : Int)) ∧ w'.cell? ⟨ge, o + 9, none⟩ = some (.int .u64 (cc : Int)))
      (first | (exact ⟨he0, he1, he2, he3, he4⟩) | (exact ⟨acell he0 _, acell he1 _, acell he2 _, acell he3 _, acell he4 _⟩) | fail) (fail)
    go_wp2_with fail
    go_meet
    case rel => exact ⟨rfl, ((Below.refl _ _).alloc (Nat.le_refl _) _).drew, RowAt.new w (waitCells line s1 s2 ee cc) 59⟩
  case rest =>
  obtain ⟨rfl, hb1, hrow1⟩ := hcut
  obtain ⟨W1, hW1⟩ : ∃ W1, W1 = wc := ⟨_, rfl⟩
  subst hW1
  replace he1 := bsome hb1 (Nat.le_refl _) he1
  replace he2 := bsome hb1 (Nat.le_refl _) he2
  replace he3 := bsome hb1 (Nat.le_refl _) he3
  replace he4 := bsome hb1 (Nat.le_refl _) he4
  have HB1 := hide hb1
  have HROW1 := hide hrow1
  have hlt1 := hrow1.lt
  clear he0 hb1 hrow1
  go_wp2_with fail
  go_cut [5] (fun v W2 => v = .pointer (some ⟨W1.heap.size, 0, none⟩) ∧ Below W1.heap.size W1 W2 ∧ RowAt W2 W1.heap.size 46 [.string s1, .int .u64 (ee : Int), .int .u64 (cc : Int)])
  case first =>
    go_region_held3 (fun w' => w'.cell? ⟨ge, o + 3, none⟩ = some (.string s1) ∧ w'.cell? ⟨ge, o + 34, none⟩ = some (.string s2) ∧ w'.cell? ⟨ge, o + 8, none⟩ = some (.int .u64 (ee : Int)) ∧ w'.cell? ⟨ge, o + 9, none⟩ = some (.int .u64 (cc : Int)))
      (first | (exact ⟨he1, he2, he3, he4⟩) | (exact ⟨acell he1 _, acell he2 _, acell he3 _, acell he4 _⟩) | fail) (fail)
    all_goals
      go_wp2_with fail
      go_meet
      case rel => exact ⟨rfl, ((Below.refl _ _).alloc (Nat.le_refl _) _).drew, RowAt.new W1 [.string s1, .int .u64 (ee : Int), .int .u64 (cc : Int)] 46⟩
  case rest =>
  obtain ⟨rfl, hb2, hrow2⟩ := hcut
  obtain ⟨X, hX⟩ : ∃ X, X = wc := ⟨_, rfl⟩
  subst hX
  have hcX : Chg (fun _ => False) w X := Chg.trans (Chg.of_below HB1.out) (Chg.of_below hb2) (fun k hk => .inl hk)
  obtain ⟨A1, hA1⟩ : ∃ A1, A1 = ext A w.heap.size (0, none) := ⟨_, rfl⟩
  have hA1o : ∀ k, k < w.heap.size → A1 k = A k := fun k hk => by rw [hA1]; exact ext_old hk
  have hA1n : ∀ k, w.heap.size ≤ k → A1 k = (0, none) := fun k hk => by rw [hA1]; exact ext_new hk
  have hG1 : GL X A1 B m1 46 1 ltA κA wb N D1 wl := HST.out.wait.kept hcX (fun k hk => hk.elim) hA1o (fun _ _ => rfl)
  have hckX : RowAt X cB 56 (ckCells m1 m2 m3 m4) := RowAt.chg HST.out.ck hcX (fun h => h)
  have hm1l := hG1.own.lt
  obtain ⟨O, hO⟩ : ∃ O, O = Obj.cells #[.pointer (some ⟨w.heap.size, 0, none⟩)] 57 := ⟨_, rfl⟩
  obtain ⟨v0', st', wE', hE', ⟨pp', hv0'⟩, hgE', hsE', hstE'⟩ := map_entry (w := (X.alloc O).drew) (hG1.own.alloc O) law46 Yba.underlying51 (by unfold maxLen; omega) zero49 (zd := .nil) (zp := []) rfl HKA.out
  obtain ⟨hr0', ht0'⟩ := hG1.look HIA.out hv0'
  have hmn' := hG1.mne ht0'
  have hil := idx_len κA (κA N) N
  have hcBm : cB ≠ m1 := by
    intro e
    obtain ⟨es, cl, h1, _⟩ := hG1.own
    unfold RowAt at hckX
    rw [e, h1] at hckX
    cases hckX
  have hNAm : W1.heap.size ≠ m1 := by
    intro e
    obtain ⟨es, cl, h1, _⟩ := hG1.own
    have h2 := hrow2
    unfold RowAt at h2
    rw [e, h1] at h2
    cases h2
  have hoE' : wE'.ownsRow B 57 1 v0' (idx κA (κA N) N).length (ptrs wb (idx κA (κA N) N)) := World.ownsRow.kept (w := (X.alloc O).drew) (hr0'.alloc O) hgE' (.inr hmn')
  have hnewE' : wE'.heap[X.heap.size]? = some (.cells #[.pointer (some ⟨w.heap.size, 0, none⟩)] 57 (0, 0)) := by
    rw [hgE'.block X.heap.size (by simp) (by simp; omega), ← hO]
    exact heap_alloc_new X O
  have hcW : X.cell? ⟨cB, 2, none⟩ = some (.map (some m1)) := hckX.cell 2
  have ha0 : X.cell? ⟨W1.heap.size, 0, none⟩ = some (.string s1) := hrow2.cell 0
  have ha1 : X.cell? ⟨W1.heap.size, 1, none⟩ = some (.int .u64 (ee : Int)) := hrow2.cell 1
  have ha2 : X.cell? ⟨W1.heap.size, 2, none⟩ = some (.int .u64 (cc : Int)) := hrow2.cell 2
  simp only [goInt] at hE' hstE'
  have hcBv' : v0'.ownBlock ≠ some cB := fun e => by have := ht0' cB e; rw [hA1o cB HST.out.ck.lt] at this; have h2 := HST.out.tck; rw [this] at h2; simp at h2
  have hNAv' : v0'.ownBlock ≠ some W1.heap.size := fun e => by have := ht0' _ e; rw [hA1n _ HB1.out.size] at this; simp at this
  have hSE' := s4of (w := (X.alloc O).drew) ⟨acell hcW _, acell ha0 _, acell ha1 _, acell ha2 _⟩ hgE' (by simpa using hcBm) (by simpa using hNAm)
  have HG1 := hide hG1
  have HROWX : Hid (RowAt X w.heap.size 59 (waitCells line s1 s2 ee cc)) := RowAt.chg (F := fun _ => False) HROW1.out (Chg.of_below hb2) (fun h => h)
  have HCX := hide hcX
  have HCKX := hide hckX
  have HA1 := hide hA1
  have HA1o := hide hA1o
  have HA1n := hide hA1n
  have HR2 := hide hrow2
  have HR0' := hide hr0'
  have HT0' := hide ht0'
  have HSTE' := hide hstE'
  have HOE' := hide hoE'
  have HNE' := hide hnewE'
  have HGE' := hide hgE'
  have HSE' := hide hsE'
  clear hG1 hcX hckX hA1 hA1o hA1n hrow2 hr0' ht0' hstE' hoE' hnewE' hgE' hsE' hv0' hb2
  subst hO
  go_wp2_with fail
  go_cut [40] (fun v W4 => ∃ D' wl', GL W4 (ext A1 X.heap.size (1, some (κA N))) B m1 46 1 ltA κA wb (N + 1) D' wl' ∧ Chg (fun k => (A1 k).1 = 1) X W4)
  case first =>
    go_region_held3 (fun w' => w'.cell? ⟨cB, 2, none⟩ = some (.map (some m1)) ∧ w'.cell? ⟨W1.heap.size, 0, none⟩ = some (.string s1) ∧ w'.cell? ⟨W1.heap.size, 1, none⟩ = some (.int .u64 (ee : Int)) ∧ w'.cell? ⟨W1.heap.size, 2, none⟩ = some (.int .u64 (cc : Int)))
      (first | (exact ⟨hcW, ha0, ha1, ha2⟩) | (exact ⟨acell hcW _, acell ha0 _, acell ha1 _, acell ha2 _⟩) | (exact hSE') | (exact hS3) | (exact hS4) | fail)
      (first
      | (refine step_append_lies _ (by rfl) _ _ 49 (by rfl) B 57 Yba.t57 (.pointer none) 1 8 Yba.underlying49 (by kernel_rfl) (by kernel_rfl) rfl rfl rfl (by decide) v0' _ _ (by rfl) HOE'.out ⟨X.heap.size, 0, none⟩ 1 1 [.pointer (some ⟨w.heap.size, 0, none⟩)] (by simp [Act.eval, Act.put]) rfl (World.news_of_block (cs := #[.pointer (some ⟨w.heap.size, 0, none⟩)]) HNE'.out) (by simp; rfl) (by decide) (by unfold maxLen; omega) (by omega) (by have h1 := HSE'.out; have h2 := HCX.out.size; simp at h1; omega) _ rfl ?_; intro g cap w3 hown3 hg3 hat3 hlt3; obtain ⟨w4, hSt, hmap4, hg4⟩ := HSTE'.out w3 (.slice (some ⟨g, 0, none⟩) ((idx κA (κA N) N).length + 1) cap) _ [] (hg3.block m1 (by have h1 := HSE'.out; simp at h1; omega) (Ne.symm hmn')) (sl_read (.inr ⟨_, _, _, rfl⟩)); have hS3 := s4of hSE' hg3 (Ne.symm hcBv') (Ne.symm hNAv'); have hS4 := s4of hS3 hg4 (by simpa using hcBm) (by simpa using hNAm)))
    go_wp2_with fail
    go_meet
    case rel =>
      have h1 := HSE'.out
      simp at h1
      have hc2 : Chg (fun k => k = m1) X wE' := Chg.trans (F1 := fun k => k = m1) (((Chg.refl _ _).alloc _).drew) (Chg.of_grown HGE'.out (fun k e => .inl (by cases e; rfl))) (fun k hk => .inl hk)
      refine push_end HG1.out HIA.out key46 HKA.out HR0'.out HT0'.out hc2 (by rw [HWN.out]; exact hown3) hg3 ?_ hmap4 hg4
      rcases hat3 with h2 | h2
      · exact .inl h2
      · right; omega
  case rest =>
  obtain ⟨D1', wl', hGY, hcY⟩ := hcut
  obtain ⟨Y, hY⟩ : ∃ Y, Y = wc := ⟨_, rfl⟩
  subst hY
  obtain ⟨A2, hA2⟩ : ∃ A2, A2 = ext A1 X.heap.size (1, some (κA N)) := ⟨_, rfl⟩
  rw [← hA2] at hGY
  have hA2o : ∀ k, k < X.heap.size → A2 k = A1 k := fun k hk => by rw [hA2]; exact ext_old hk
  have hwX : w.heap.size ≤ X.heap.size := HCX.out.size
  have hA2A : ∀ k, k < w.heap.size → A2 k = A k := fun k hk => by rw [hA2o k (by omega)]; exact HA1o.out k hk
  have hszY : w.heap.size ≤ Y.heap.size := Nat.le_trans hwX hcY.size
  have hcwY : Chg (fun k => (A k).1 = 1) w Y := Chg.trans (HCX.out.mono (fun _ h => h.elim)) hcY (fun k hk => by
    rcases Nat.lt_or_ge k w.heap.size with h | h
    · left; have h1 : (A1 k).1 = 1 := hk; rwa [HA1o.out k h] at h1
    · exact .inr h)
  have hckY : RowAt Y cB 56 (ckCells m1 m2 m3 m4) := RowAt.chg HST.out.ck hcwY (fun h => by have := HST.out.tck; rw [this] at h; cases h)
  have htcY : (A2 cB).1 = 0 := by rw [hA2A cB HST.out.ck.lt]; exact HST.out.tck
  have htgY : (A2 ge).1 = 0 := by rw [hA2A ge hgl]; exact htge
  have hevY : EvAt Y ge o line s1 s2 ee cc := HEV.out.chg hcwY (fun h => by rw [htge] at h; cases h)
  have hrnY : GL Y A2 B m4 48 2 ltO κO wb N D4 rl := HST.out.run.kept hcwY (fun k hk => by rw [hk]; decide) hA2A (fun _ _ => rfl)
  have hswY : GS Y A2 B m2 3 ltN κN ps N N D2 sw := HST.out.sw_.kept hcwY (fun k hk => by rw [hk]; decide) hA2A
  have hsuY : GS Y A2 B m3 4 ltN κN ps N N D3 su := HST.out.su_.kept hcwY (fun k hk => by rw [hk]; decide) hA2A
  have hwtY : RowAt Y w.heap.size 59 (waitCells line s1 s2 ee cc) := RowAt.chg (F := fun k => (A1 k).1 = 1) HROWX.out hcY (fun h => by rw [HA1n.out _ (Nat.le_refl _)] at h; cases h)
  have htwY : (A2 w.heap.size).1 = 0 := by rw [hA2o _ (by have := HROWX.out.lt; omega), HA1n.out _ (Nat.le_refl _)]
  have hq0 : Y.cell? ⟨cB, 3, none⟩ = some (.map (some m2)) := hckY.cell 3
  have HGS := hide hswY
  have hmlt := hswY.own.lt
  have hcBm : cB ≠ m2 := fun e => by have h1 := htcY; rw [e, hswY.tagm] at h1; simp at h1
  have hgem : ge ≠ m2 := fun e => by have h1 := htgY; rw [e, hswY.tagm] at h1; simp at h1
  have hBY : B ≤ Y.heap.size := Nat.le_trans hB hszY
  have he1 := hevY.node_
  have he3 := hevY.ep_
  have he4 := hevY.ct_
  have hcl := hckY.lt
  have hglY := World.block_lt_of_cell? Y _ he1
  simp at hglY
  obtain ⟨A3, hA3⟩ : ∃ A3, A3 = ext A2 Y.heap.size (3, some (κN N)) := ⟨_, rfl⟩
  have hA3o : ∀ k, k < Y.heap.size → A3 k = A2 k := fun k hk => by rw [hA3]; exact ext_old hk
  have HAN := hide hA3
  have hz0 : (A3 cB).1 = 0 := by rw [hA3o cB hcl]; exact htcY
  have hz1 : (A3 ge).1 = 0 := by rw [hA3o ge hglY]; exact htgY
  have HP := hide (And.intro hGY (And.intro hrnY (And.intro hsuY (And.intro hwtY (And.intro hckY hevY)))))
  have HA2A := hide hA2A
  clear hGY hrnY hsuY hwtY hckY hevY hswY hcY hA2 hA2o hA2A HG1 HCX HCKX HA1 HA1o HA1n HR2 HR0' HT0' HSTE' HOE' HNE' HGE' HSE' hE' hcW ha0 ha1 ha2 hSE' hcBv' hNAv' hmn' hil hNAm
  go_wp2_with fail
  go_cut [53] (fun v W5 => ∃ D' sd', GS W5 A3 B m2 3 ltN κN ps (N + 1) (N + 1) D' sd' ∧ Chg (fun k => (A2 k).1 = 3) Y W5)
  case first =>
    go_region_held3 (fun w' => w'.cell? ⟨cB, 3, none⟩ = some (.map (some m2)) ∧ w'.cell? ⟨ge, o + 3, none⟩ = some (.string s1) ∧ w'.cell? ⟨ge, o + 8, none⟩ = some (.int .u64 (ee : Int)) ∧ w'.cell? ⟨ge, o + 9, none⟩ = some (.int .u64 (cc : Int)))
      (first | (exact ⟨hq0, he1, he3, he4⟩) | (exact ⟨csome hcS hq0 hcBm, csome hcS he1 hgem, csome hcS he3 hgem, csome hcS he4 hgem⟩) | (exact hS6) | fail)
      (first
      | (go_at_call 13; refine (setOf_any s1 _ (by exact HGS.out.kept (chg_drew Y) (fun k h => h.elim) (fun _ _ => rfl)) HIN.out HKN.out (Nat.le_refl _) (by omega) (by exact hBY)).mono ?_; rintro r wS ⟨D', sd', rfl, hS, hcS'⟩; have hcS := unDrewC hcS'; clear hcS'; have HS : Hid (GS wS A3 B m2 3 ltN κN ps (N + 1) N D' sd') := (by rw [HAN.out]; exact hS); clear hS)
      | (go_at_call 10; refine (add_PS B (sd' N).b (sd' N).bv (sd' N).sv (sd' N).L ee cc wS (HS.out.sets N (by omega)) (HS.out.good N (by omega)) hee hcc (Nat.le_trans hBY hcS.size)).mono ?_; intro r wT hR; obtain ⟨D5, sd5, hG5, hc5⟩ := set_add HGS.out (by rw [← HAN.out]; exact HS.out) hcS (by rw [HPS.out]; exact hR); obtain ⟨xb, hxb⟩ : ∃ xb, r = .returned (.bool xb) := (by rcases hR with ⟨_, h, _⟩ | ⟨_, h, _⟩; exact ⟨_, h⟩; exact ⟨_, h⟩); subst hxb; have hS6 : wT.cell? ⟨cB, 3, none⟩ = some (.map (some m2)) ∧ wT.cell? ⟨ge, o + 3, none⟩ = some (.string s1) ∧ wT.cell? ⟨ge, o + 8, none⟩ = some (.int .u64 (ee : Int)) ∧ wT.cell? ⟨ge, o + 9, none⟩ = some (.int .u64 (cc : Int)) := ⟨csome hc5 hq0 (fun h => by rw [htcY] at h; cases h), csome hc5 he1 (fun h => by rw [htgY] at h; cases h), csome hc5 he3 (fun h => by rw [htgY] at h; cases h), csome hc5 he4 (fun h => by rw [htgY] at h; cases h)⟩))
    go_wp2_with fail
    go_meet
    case rel => exact ⟨D5, sd5, by rw [HAN.out]; exact hG5, hc5⟩
  case rest =>
  obtain ⟨D2', sw', hswZ, hcZ⟩ := hcut
  obtain ⟨Z, hZ⟩ : ∃ Z, Z = wc := ⟨_, rfl⟩
  subst hZ
  obtain ⟨hGY, hrnY, hsuY, hwtY, hckY, hevY⟩ := HP.out
  have hszZ : w.heap.size ≤ Z.heap.size := Nat.le_trans hszY hcZ.size
  have hA3A : ∀ k, k < w.heap.size → A3 k = A k := fun k hk => by rw [hA3o k (by omega)]; exact HA2A.out k hk
  have hcwZ : Chg (fun k => (A k).1 ≠ 0) w Z := Chg.trans (hcwY.mono (fun k h => .inl (by show (A k).1 ≠ 0; rw [h]; decide))) hcZ (fun k hk => by
    rcases Nat.lt_or_ge k w.heap.size with h | h
    · left; have h1 : (A2 k).1 = 3 := hk; rw [HA2A.out k h] at h1; show (A k).1 ≠ 0; rw [h1]; decide
    · exact .inr h)
  have hGZ : GL Z A3 B m1 46 1 ltA κA wb (N + 1) D1' wl' := hGY.kept hcZ (fun k hk => by rw [hk]; decide) hA3o (fun _ _ => rfl)
  have hrnZ : GL Z A3 B m4 48 2 ltO κO wb N D4 rl := hrnY.kept hcZ (fun k hk => by rw [hk]; decide) hA3o (fun _ _ => rfl)
  have hsuZ : GS Z A3 B m3 4 ltN κN ps N N D3 su := hsuY.kept hcZ (fun k hk => by rw [hk]; decide) hA3o
  have hwtZ : RowAt Z w.heap.size 59 (waitCells line s1 s2 ee cc) := RowAt.chg hwtY hcZ (fun h => by rw [htwY] at h; cases h)
  have htwZ : (A3 w.heap.size).1 = 0 := by rw [hA3o _ hwtY.lt]; exact htwY
  have hckZ : RowAt Z cB 56 (ckCells m1 m2 m3 m4) := RowAt.chg hckY hcZ (fun h => by rw [htcY] at h; cases h)
  have hevZ : EvAt Z ge o line s1 s2 ee cc := hevY.chg hcZ (fun h => by rw [htgY] at h; cases h)
  have htcZ : (A3 cB).1 = 0 := hz0
  have htgZ : (A3 ge).1 = 0 := hz1
  clear HP hGY hrnY hsuY hwtY hckY hevY hq0 HGS hmlt hcBm hgem hBY he1 he3 he4 hcl hglY hA3 HAN hz0 hz1 hcZ hcwY htwY htcY htgY
  have hq0 : Z.cell? ⟨cB, 4, none⟩ = some (.map (some m3)) := hckZ.cell 4
  have HGS := hide hsuZ
  have hmlt := hsuZ.own.lt
  have hcBm : cB ≠ m3 := fun e => by have h1 := htcZ; rw [e, hsuZ.tagm] at h1; simp at h1
  have hgem : ge ≠ m3 := fun e => by have h1 := htgZ; rw [e, hsuZ.tagm] at h1; simp at h1
  have hBY : B ≤ Z.heap.size := Nat.le_trans hB hszZ
  have he1 := hevZ.node_
  have he3 := hevZ.ep_
  have he4 := hevZ.ct_
  have hcl := hckZ.lt
  have hglZ := World.block_lt_of_cell? Z _ he1
  simp at hglZ
  obtain ⟨A4, hA4⟩ : ∃ A4, A4 = ext A3 Z.heap.size (4, some (κN N)) := ⟨_, rfl⟩
  have hA4o : ∀ k, k < Z.heap.size → A4 k = A3 k := fun k hk => by rw [hA4]; exact ext_old hk
  have HAN := hide hA4
  have hz0 : (A4 cB).1 = 0 := by rw [hA4o cB hcl]; exact htcZ
  have hz1 : (A4 ge).1 = 0 := by rw [hA4o ge hglZ]; exact htgZ
  have HA3A := hide hA3A
  have HP := hide (And.intro hGZ (And.intro hrnZ (And.intro hswZ (And.intro hwtZ (And.intro hckZ hevZ)))))
  clear hGZ hrnZ hswZ hsuZ hwtZ hckZ hevZ hA3o hA3A HA2A
  go_wp2_with fail
  go_cut [71] (fun v W5 => ∃ D' sd', GS W5 A4 B m3 4 ltN κN ps (N + 1) (N + 1) D' sd' ∧ Chg (fun k => (A3 k).1 = 4) Z W5)
  case first =>
    go_region_held3 (fun w' => w'.cell? ⟨cB, 4, none⟩ = some (.map (some m3)) ∧ w'.cell? ⟨ge, o + 3, none⟩ = some (.string s1) ∧ w'.cell? ⟨ge, o + 8, none⟩ = some (.int .u64 (ee : Int)) ∧ w'.cell? ⟨ge, o + 9, none⟩ = some (.int .u64 (cc : Int)))
      (first | (exact ⟨hq0, he1, he3, he4⟩) | (exact ⟨csome hcS hq0 hcBm, csome hcS he1 hgem, csome hcS he3 hgem, csome hcS he4 hgem⟩) | (exact hS6) | fail)
      (first
      | (go_at_call 13; refine (setOf_any s1 _ (by exact HGS.out.kept (chg_drew Z) (fun k h => h.elim) (fun _ _ => rfl)) HIN.out HKN.out (Nat.le_refl _) (by omega) (by exact hBY)).mono ?_; rintro r wS ⟨D', sd', rfl, hS, hcS'⟩; have hcS := unDrewC hcS'; clear hcS'; have HS : Hid (GS wS A4 B m3 4 ltN κN ps (N + 1) N D' sd') := (by rw [HAN.out]; exact hS); clear hS)
      | (go_at_call 10; refine (add_PS B (sd' N).b (sd' N).bv (sd' N).sv (sd' N).L ee cc wS (HS.out.sets N (by omega)) (HS.out.good N (by omega)) hee hcc (Nat.le_trans hBY hcS.size)).mono ?_; intro r wT hR; obtain ⟨D5, sd5, hG5, hc5⟩ := set_add HGS.out (by rw [← HAN.out]; exact HS.out) hcS (by rw [HPS.out]; exact hR); obtain ⟨xb, hxb⟩ : ∃ xb, r = .returned (.bool xb) := (by rcases hR with ⟨_, h, _⟩ | ⟨_, h, _⟩; exact ⟨_, h⟩; exact ⟨_, h⟩); subst hxb; have hS6 : wT.cell? ⟨cB, 4, none⟩ = some (.map (some m3)) ∧ wT.cell? ⟨ge, o + 3, none⟩ = some (.string s1) ∧ wT.cell? ⟨ge, o + 8, none⟩ = some (.int .u64 (ee : Int)) ∧ wT.cell? ⟨ge, o + 9, none⟩ = some (.int .u64 (cc : Int)) := ⟨csome hc5 hq0 (fun h => by rw [htcZ] at h; cases h), csome hc5 he1 (fun h => by rw [htgZ] at h; cases h), csome hc5 he3 (fun h => by rw [htgZ] at h; cases h), csome hc5 he4 (fun h => by rw [htgZ] at h; cases h)⟩))
    go_wp2_with fail
    go_meet
    case rel => exact ⟨D5, sd5, by rw [HAN.out]; exact hG5, hc5⟩
  case rest =>
  obtain ⟨D3', su', hsuU, hcU⟩ := hcut
  obtain ⟨U, hU⟩ : ∃ U, U = wc := ⟨_, rfl⟩
  subst hU
  obtain ⟨hGZ, hrnZ, hswZ, hwtZ, hckZ, hevZ⟩ := HP.out
  have hszU : w.heap.size ≤ U.heap.size := Nat.le_trans hszZ hcU.size
  have hA4A : ∀ k, k < w.heap.size → A4 k = A k := fun k hk => by rw [hA4o k (by omega)]; exact HA3A.out k hk
  have hcwU : Chg (fun k => (A k).1 ≠ 0) w U := Chg.trans hcwZ hcU (fun k hk => by
    rcases Nat.lt_or_ge k w.heap.size with h | h
    · left; have h1 : (A3 k).1 = 4 := hk; rw [HA3A.out k h] at h1; show (A k).1 ≠ 0; rw [h1]; decide
    · exact .inr h)
  have hGU : GL U A4 B m1 46 1 ltA κA wb (N + 1) D1' wl' := hGZ.kept hcU (fun k hk => by rw [hk]; decide) hA4o (fun _ _ => rfl)
  have hrnU : GL U A4 B m4 48 2 ltO κO wb N D4 rl := hrnZ.kept hcU (fun k hk => by rw [hk]; decide) hA4o (fun _ _ => rfl)
  have hswU : GS U A4 B m2 3 ltN κN ps (N + 1) (N + 1) D2' sw' := hswZ.kept hcU (fun k hk => by rw [hk]; decide) hA4o
  have hwtU : RowAt U w.heap.size 59 (waitCells line s1 s2 ee cc) := RowAt.chg hwtZ hcU (fun h => by rw [htwZ] at h; cases h)
  have htwU : (A4 w.heap.size).1 = 0 := by rw [hA4o _ hwtZ.lt]; exact htwZ
  have hckU : RowAt U cB 56 (ckCells m1 m2 m3 m4) := RowAt.chg hckZ hcU (fun h => by rw [htcZ] at h; cases h)
  have hevU : EvAt U ge o line s1 s2 ee cc := hevZ.chg hcU (fun h => by rw [htgZ] at h; cases h)
  have htcU : (A4 cB).1 = 0 := hz0
  have htgU : (A4 ge).1 = 0 := hz1
  clear HP hGZ hrnZ hswZ hwtZ hckZ hevZ hq0 HGS hmlt hcBm hgem hBY he1 he3 he4 hcl hglZ hA4 HAN hz0 hz1 hcU hcwZ htwZ htcZ htgZ hA4o
  have he1 := hevU.node_
  have he2 := hevU.op_
  have HA4A := hide hA4A
  have HP := hide (And.intro hGU (And.intro hrnU (And.intro hswU (And.intro hsuU (And.intro hwtU (And.intro hckU hevU))))))
  clear hGU hrnU hswU hsuU hwtU hckU hevU hA4A HA3A
  go_wp2_with fail
  go_cut [6] (fun v W2 => v = .pointer (some ⟨U.heap.size, 0, none⟩) ∧ Below U.heap.size U W2 ∧ RowAt W2 U.heap.size 48 [.string s1, .string s2])
  case first =>
    go_region_held3 (fun w' => w'.cell? ⟨ge, o + 3, none⟩ = some (.string s1) ∧ w'.cell? ⟨ge, o + 34, none⟩ = some (.string s2))
      (first | (exact ⟨he1, he2⟩) | (exact ⟨acell he1 _, acell he2 _⟩) | fail) (fail)
    all_goals
      go_wp2_with fail
      go_meet
      case rel => exact ⟨rfl, ((Below.refl _ _).alloc (Nat.le_refl _) _).drew, RowAt.new U [.string s1, .string s2] 48⟩
  case rest =>
  obtain ⟨rfl, hb6, hrow6⟩ := hcut
  obtain ⟨V, hV⟩ : ∃ V, V = wc := ⟨_, rfl⟩
  subst hV
  have hcV : Chg (fun _ => False) U V := Chg.of_below hb6
  obtain ⟨A5, hA5⟩ : ∃ A5, A5 = ext A4 U.heap.size (0, none) := ⟨_, rfl⟩
  have hA5o : ∀ k, k < U.heap.size → A5 k = A4 k := fun k hk => by rw [hA5]; exact ext_old hk
  have hA5n : ∀ k, U.heap.size ≤ k → A5 k = (0, none) := fun k hk => by rw [hA5]; exact ext_new hk
  obtain ⟨hGU, hrnU, hswU, hsuU, hwtU, hckU, hevU⟩ := HP.out
  have hG1 : GL V A5 B m4 48 2 ltO κO wb N D4 rl := hrnU.kept hcV (fun k hk => hk.elim) hA5o (fun _ _ => rfl)
  have hGV : GL V A5 B m1 46 1 ltA κA wb (N + 1) D1' wl' := hGU.kept hcV (fun k hk => hk.elim) hA5o (fun _ _ => rfl)
  have hswV : GS V A5 B m2 3 ltN κN ps (N + 1) (N + 1) D2' sw' := hswU.kept hcV (fun k hk => hk.elim) hA5o
  have hsuV : GS V A5 B m3 4 ltN κN ps (N + 1) (N + 1) D3' su' := hsuU.kept hcV (fun k hk => hk.elim) hA5o
  have hwtV : RowAt V w.heap.size 59 (waitCells line s1 s2 ee cc) := RowAt.chg hwtU hcV (fun h => h)
  have htwV : (A5 w.heap.size).1 = 0 := by rw [hA5o _ hwtU.lt]; exact htwU
  have hckX : RowAt V cB 56 (ckCells m1 m2 m3 m4) := RowAt.chg hckU hcV (fun h => h)
  have htcV : (A5 cB).1 = 0 := by rw [hA5o _ hckU.lt]; exact htcU
  have hA5A : ∀ k, k < w.heap.size → A5 k = A k := fun k hk => by rw [hA5o k (by omega)]; exact HA4A.out k hk
  have hcwV : Chg (fun k => (A k).1 ≠ 0) w V := Chg.trans hcwU hcV (fun k hk => hk.elim)
  have hszV : w.heap.size ≤ V.heap.size := Nat.le_trans hszU hcV.size
  have hm1l := hG1.own.lt
  obtain ⟨O, hO⟩ : ∃ O, O = Obj.cells #[.pointer (some ⟨w.heap.size, 0, none⟩)] 57 := ⟨_, rfl⟩
  obtain ⟨v0', st', wE', hE', ⟨pp', hv0'⟩, hgE', hsE', hstE'⟩ := map_entry (w := (V.alloc O).drew) (hG1.own.alloc O) law48 Yba.underlying54 (by unfold maxLen; omega) zero49 (zd := .nil) (zp := []) rfl HKO.out
  obtain ⟨hr0', ht0'⟩ := hG1.look HIO.out hv0'
  have hmn' := hG1.mne ht0'
  have hil := idx_len κO (κO N) N
  have hcBm : cB ≠ m4 := by
    intro e
    obtain ⟨es, cl, h1, _⟩ := hG1.own
    unfold RowAt at hckX
    rw [e, h1] at hckX
    cases hckX
  have hNAm : U.heap.size ≠ m4 := by
    intro e
    obtain ⟨es, cl, h1, _⟩ := hG1.own
    have h2 := hrow6
    unfold RowAt at h2
    rw [e, h1] at h2
    cases h2
  have hoE' : wE'.ownsRow B 57 1 v0' (idx κO (κO N) N).length (ptrs wb (idx κO (κO N) N)) := World.ownsRow.kept (w := (V.alloc O).drew) (hr0'.alloc O) hgE' (.inr hmn')
  have hnewE' : wE'.heap[V.heap.size]? = some (.cells #[.pointer (some ⟨w.heap.size, 0, none⟩)] 57 (0, 0)) := by
    rw [hgE'.block V.heap.size (by simp) (by simp; omega), ← hO]
    exact heap_alloc_new V O
  have hcW : V.cell? ⟨cB, 6, none⟩ = some (.map (some m4)) := hckX.cell 6
  have ha0 : V.cell? ⟨U.heap.size, 0, none⟩ = some (.string s1) := hrow6.cell 0
  have ha1 : V.cell? ⟨U.heap.size, 1, none⟩ = some (.string s2) := hrow6.cell 1
  simp only [goInt] at hE' hstE'
  have hcBv' : v0'.ownBlock ≠ some cB := fun e => by have := ht0' cB e; rw [this] at htcV; cases htcV
  have hNAv' : v0'.ownBlock ≠ some U.heap.size := fun e => by have := ht0' _ e; rw [hA5n _ (Nat.le_refl _)] at this; simp at this
  have hSE' := s4of (w := (V.alloc O).drew) ⟨acell hcW _, acell ha0 _, acell ha1 _, acell ha1 _⟩ hgE' (by simpa using hcBm) (by simpa using hNAm)
  have HG1 := hide hG1
  have HPV := hide (And.intro hGV (And.intro hswV (And.intro hsuV (And.intro hwtV hckX))))
  have HA5A := hide hA5A
  have HA5o := hide hA5o
  have HR0' := hide hr0'
  have HT0' := hide ht0'
  have HSTE' := hide hstE'
  have HOE' := hide hoE'
  have HNE' := hide hnewE'
  have HGE' := hide hgE'
  have HSE' := hide hsE'
  clear hG1 hGV hswV hsuV hwtV hckX hA5 hA5o hA5n hA5A hrow6 hr0' ht0' hstE' hoE' hnewE' hgE' hsE' hv0' hb6 hGU hrnU hswU hsuU hwtU hckU hevU HP he1 he2 hcV
  subst hO
  go_wp2_with fail
  go_region_held3 (fun w' => w'.cell? ⟨cB, 6, none⟩ = some (.map (some m4)) ∧ w'.cell? ⟨U.heap.size, 0, none⟩ = some (.string s1) ∧ w'.cell? ⟨U.heap.size, 1, none⟩ = some (.string s2) ∧ w'.cell? ⟨U.heap.size, 1, none⟩ = some (.string s2))
    (first | (exact ⟨hcW, ha0, ha1, ha1⟩) | (exact ⟨acell hcW _, acell ha0 _, acell ha1 _, acell ha1 _⟩) | (exact hSE') | (exact hS3) | (exact hS4) | fail)
    (first
    | (refine step_append_lies _ (by rfl) _ _ 49 (by rfl) B 57 Yba.t57 (.pointer none) 1 8 Yba.underlying49 (by kernel_rfl) (by kernel_rfl) rfl rfl rfl (by decide) v0' _ _ (by rfl) HOE'.out ⟨V.heap.size, 0, none⟩ 1 1 [.pointer (some ⟨w.heap.size, 0, none⟩)] (by simp [Act.eval, Act.put]) rfl (World.news_of_block (cs := #[.pointer (some ⟨w.heap.size, 0, none⟩)]) HNE'.out) (by simp; rfl) (by decide) (by unfold maxLen; omega) (by omega) (by have h1 := HSE'.out; simp at h1; omega) _ rfl ?_; intro g cap w3 hown3 hg3 hat3 hlt3; obtain ⟨w4, hSt, hmap4, hg4⟩ := HSTE'.out w3 (.slice (some ⟨g, 0, none⟩) ((idx κO (κO N) N).length + 1) cap) _ [] (hg3.block m4 (by have h1 := HSE'.out; simp at h1; omega) (Ne.symm hmn')) (sl_read (.inr ⟨_, _, _, rfl⟩)); have hS3 := s4of hSE' hg3 (Ne.symm hcBv') (Ne.symm hNAv'); have hS4 := s4of hS3 hg4 (by simpa using hcBm) (by simpa using hNAm)))
  refine bodyPost_end (results_none rfl _ _ _) rfl ?_
  have h1 := HSE'.out
  simp at h1
  have hc2 : Chg (fun k => k = m4) V wE' := Chg.trans (F1 := fun k => k = m4) (((Chg.refl _ _).alloc _).drew) (Chg.of_grown HGE'.out (fun k e => .inl (by cases e; rfl))) (fun k hk => .inl hk)
  obtain ⟨D4', rl', hrnT, hcT⟩ := push_end HG1.out HIO.out key48 HKO.out HR0'.out HT0'.out hc2 (by rw [HWN.out]; exact hown3) hg3 (by
    rcases hat3 with h2 | h2
    · exact .inl h2
    · right; omega) hmap4 hg4
  obtain ⟨hGV, hswV, hsuV, hwtV, hckV⟩ := HPV.out
  have hA6o : ∀ k, k < V.heap.size → ext A5 V.heap.size (2, some (κO N)) k = A5 k := fun k hk => ext_old hk
  refine ⟨rfl, ext A5 V.heap.size (2, some (κO N)), D1', D2', D3', D4', wl', rl', sw', su', ⟨?_, ?_, ?_, hrnT, ?_, ?_⟩, ?_, ?_, ?_, ?_⟩
  · exact RowAt.chg hckV hcT (fun h => by rw [htcV] at h; cases h)
  · rw [hA6o _ hckV.lt]; exact htcV
  · exact hGV.kept hcT (fun k hk => by rw [hk]; decide) hA6o (fun _ _ => rfl)
  · exact hswV.kept hcT (fun k hk => by rw [hk]; decide) hA6o
  · exact hsuV.kept hcT (fun k hk => by rw [hk]; decide) hA6o
  · exact RowAt.chg hwtV hcT (fun h => by rw [htwV] at h; cases h)
  · rw [hA6o _ hwtV.lt]; exact htwV
  · exact Chg.trans hcwV hcT (fun k hk => by
      rcases Nat.lt_or_ge k w.heap.size with h | h
      · left; have h1 : (A5 k).1 = 2 := hk; rw [HA5A.out k h] at h1; show (A k).1 ≠ 0; rw [h1]; decide
      · exact .inr h)
  · intro k hk
    rw [hA6o k (by omega)]
    exact HA5A.out k hk
end Go.Proofs.Ybulkdaie.Scr
