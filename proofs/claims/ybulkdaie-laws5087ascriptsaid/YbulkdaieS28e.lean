/-
  The second loop: what is looked up.
-/
import Derived.Test.YbulkdaieS28d
namespace Go.Proofs.Ybulkdaie.Scr
open Go.RowKit Go.Maps
set_option linter.unusedVariables false
set_option linter.unusedSimpArgs false

section
variable {w wr : World} {A : Tags} {ge n : Nat} {ltA ltO ltN : Nat → Lit} {xn xo xe xc wb : Nat → Nat} {i : Nat} {D1 D2 D3 D4 : DataW Unit} {wl rl : Nat → Value} {sw su : Nat → SD} {C : List Value}

theorem LS.lookA (h : LS w wr A ge n ltA ltO ltN xn xo xe xc wb i D1 D2 D3 D4 wl rl sw su C) (hA : ∀ k, k < 54 → keyOf Yba.prog 46 (keyA k) = some (ltA k)) {j : Nat} (hj : j < i) :
    (Instr.lookup 51 (.map (some w.heap.size)) (.agg #[.string (nodeS (xn j)), .int .u64 ((xe j % 3 : Nat) : Int), .int .u64 ((xc j % 6 : Nat) : Int)]) false).run Yba.prog wr = .ok (wl j) wr := by
  obtain ⟨v, ps, hrun, hv⟩ := World.ownsMap.lookup h.st.wait.own key46 Yba.underlying51 (zero49 wr) (zd := .nil) (zp := []) rfl (keyA_of xn xe xc hA j)
  rw [h.st.wait.at_ j hj] at hv
  rw [hrun, sl_inj hv (owns_form (h.st.wait.rows j hj))]
theorem LS.lookO (h : LS w wr A ge n ltA ltO ltN xn xo xe xc wb i D1 D2 D3 D4 wl rl sw su C) (hO : ∀ k, k < 9 → keyOf Yba.prog 48 (keyO k) = some (ltO k)) {j : Nat} (hj : j < i) :
    (Instr.lookup 54 (.map (some (w.heap.size + 3))) (.agg #[.string (nodeS (xn j)), .string (opS (xo j))]) false).run Yba.prog wr = .ok (rl j) wr := by
  obtain ⟨v, ps, hrun, hv⟩ := World.ownsMap.lookup h.st.run.own key48 Yba.underlying54 (zero49 wr) (zd := .nil) (zp := []) rfl (keyO_of xn xo hO j)
  rw [h.st.run.at_ j hj] at hv
  rw [hrun, sl_inj hv (owns_form (h.st.run.rows j hj))]
theorem LS.lookW (h : LS w wr A ge n ltA ltO ltN xn xo xe xc wb i D1 D2 D3 D4 wl rl sw su C) (hN : ∀ k, k < 3 → keyOf Yba.prog 9 (keyN k) = some (ltN k)) {j : Nat} (hj : j < i) :
    (Instr.lookup 52 (.map (some (w.heap.size + 1))) (.string (nodeS (xn j))) false).run Yba.prog wr = .ok (.pointer (some ⟨(sw j).b, 0, none⟩)) wr := by
  obtain ⟨v, ps, hrun, hv⟩ := World.ownsMap.lookup h.st.sw_.own key9 Yba.underlying52 (zero61 wr) (zd := .nil) (zp := []) rfl (keyN_of xn hN j)
  rw [h.st.sw_.at_ j hj] at hv
  rw [hrun, pt_num hv]
theorem LS.lookU (h : LS w wr A ge n ltA ltO ltN xn xo xe xc wb i D1 D2 D3 D4 wl rl sw su C) (hN : ∀ k, k < 3 → keyOf Yba.prog 9 (keyN k) = some (ltN k)) {j : Nat} (hj : j < i) :
    (Instr.lookup 52 (.map (some (w.heap.size + 2))) (.string (nodeS (xn j))) false).run Yba.prog wr = .ok (.pointer (some ⟨(su j).b, 0, none⟩)) wr := by
  obtain ⟨v, ps, hrun, hv⟩ := World.ownsMap.lookup h.st.su_.own key9 Yba.underlying52 (zero61 wr) (zd := .nil) (zp := []) rfl (keyN_of xn hN j)
  rw [h.st.su_.at_ j hj] at hv
  rw [hrun, pt_num hv]

theorem below_dN (wr : World) (k : Nat) : Below wr.heap.size wr (wr.drewN k) := below_drewN (Below.refl _ _) k

/-- The set holds the event's own position: Add says so and turns nothing. -/
theorem LS.addW (h : LS w wr A ge n ltA ltO ltN xn xo xe xc wb i D1 D2 D3 D4 wl rl sw su C) {j : Nat} (hj : j < i) :
    Calls Yba.prog 10 #[.pointer (some ⟨(sw j).b, 0, none⟩), pos (xe j % 3) (xc j % 6), pos (xe j % 3) (xc j % 6)] wr fun r w' => r = .returned (.bool false) ∧ Below wr.heap.size wr w' := by
  refine (add_PS w.heap.size (sw j).b (sw j).bv (sw j).sv (sw j).L (xe j % 3) (xc j % 6) wr (h.st.sw_.sets j hj) (h.st.sw_.good j hj) (by omega) (by omega) h.below.size).mono ?_
  rintro r w' (⟨_, h1, h2⟩ | ⟨h1, _⟩)
  · exact ⟨h1, h2⟩
  · exact absurd ((h.st.sw_.mem j hj _ _).2 ⟨j, hj, rfl, rfl⟩) h1
theorem LS.addU (h : LS w wr A ge n ltA ltO ltN xn xo xe xc wb i D1 D2 D3 D4 wl rl sw su C) {j : Nat} (hj : j < i) :
    Calls Yba.prog 10 #[.pointer (some ⟨(su j).b, 0, none⟩), pos (xe j % 3) (xc j % 6), pos (xe j % 3) (xc j % 6)] wr fun r w' => r = .returned (.bool false) ∧ Below wr.heap.size wr w' := by
  refine (add_PS w.heap.size (su j).b (su j).bv (su j).sv (su j).L (xe j % 3) (xc j % 6) wr (h.st.su_.sets j hj) (h.st.su_.good j hj) (by omega) (by omega) h.below.size).mono ?_
  rintro r w' (⟨_, h1, h2⟩ | ⟨h1, _⟩)
  · exact ⟨h1, h2⟩
  · exact absurd ((h.st.su_.mem j hj _ _).2 ⟨j, hj, rfl, rfl⟩) h1

/-- The maps' sizes. -/
theorem LS.lens (h : LS w wr A ge n ltA ltO ltN xn xo xe xc wb i D1 D2 D3 D4 wl rl sw su C) (ty : TypeId) :
    (Builtin.len_ #[51] ty #[.map (some w.heap.size)]).run Yba.prog wr = .ok (.int .i64 (dcnt (κA xn xe xc) i : Nat)) wr ∧ (Builtin.len_ #[54] ty #[.map (some (w.heap.size + 3))]).run Yba.prog wr = .ok (.int .i64 (dcnt (κO xn xo) i : Nat)) wr ∧
    (Builtin.len_ #[52] ty #[.map (some (w.heap.size + 1))]).run Yba.prog wr = .ok (.int .i64 (dcnt (κN xn) i : Nat)) wr ∧ (Builtin.len_ #[52] ty #[.map (some (w.heap.size + 2))]).run Yba.prog wr = .ok (.int .i64 (dcnt (κN xn) i : Nat)) wr := by
  refine ⟨?_, ?_, ?_, ?_⟩
  · rw [World.ownsMap.len h.st.wait.own Yba.underlying51 ty, h.st.wait.size_]
  · rw [World.ownsMap.len h.st.run.own Yba.underlying54 ty, h.st.run.size_]
  · rw [World.ownsMap.len h.st.sw_.own Yba.underlying52 ty, h.st.sw_.size_]
  · rw [World.ownsMap.len h.st.su_.own Yba.underlying52 ty, h.st.su_.size_]

theorem κA_iff (xn xe xc : Nat → Nat) (i j : Nat) : κA xn xe xc j = κA xn xe xc i ↔ (nodeS (xn j) = nodeS (xn i) ∧ xe j % 3 = xe i % 3 ∧ xc j % 6 = xc i % 6) := by
  constructor
  · intro h
    unfold κA at h
    refine ⟨?_, by omega, by omega⟩
    rw [← nodeS_mod (xn j), ← nodeS_mod (xn i), show xn j % 3 = xn i % 3 by omega]
  · rintro ⟨h1, h2, h3⟩
    have := nodeS_inj h1
    unfold κA
    omega
theorem κO_iff (xn xo : Nat → Nat) (i j : Nat) : κO xn xo j = κO xn xo i ↔ (nodeS (xn j) = nodeS (xn i) ∧ opS (xo j) = opS (xo i)) := by
  constructor
  · intro h
    unfold κO at h
    refine ⟨?_, ?_⟩
    · rw [← nodeS_mod (xn j), ← nodeS_mod (xn i), show xn j % 3 = xn i % 3 by omega]
    · rw [← opS_mod (xo j), ← opS_mod (xo i), show xo j % 3 = xo i % 3 by omega]
  · rintro ⟨h1, h2⟩
    have h3 := nodeS_inj h1
    have h4 := opS_inj h2
    unfold κO
    omega
theorem κN_iff (xn : Nat → Nat) (i j : Nat) : κN xn j = κN xn i ↔ nodeS (xn j) = nodeS (xn i) := by
  constructor
  · intro h
    unfold κN at h
    rw [← nodeS_mod (xn j), ← nodeS_mod (xn i), h]
  · intro h
    exact nodeS_inj h
end
end Go.Proofs.Ybulkdaie.Scr
