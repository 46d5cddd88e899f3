/-
  setOf.
-/
import Derived.Test.YbulkdaieS24
import Derived.OwnWalk
namespace Go.Proofs.Ybulkdaie.Scr
open Go.RowKit Go.Maps
set_option linter.unusedVariables false
set_option linter.unusedSimpArgs false

theorem key9 : Keyed Yba.prog 9 := Keyed.of_law law9
theorem key46 : Keyed Yba.prog 46 := Keyed.of_law law46
theorem key48 : Keyed Yba.prog 48 := Keyed.of_law law48

theorem pt_num {v : Value} {b : Nat} {ps : List MemPlace} (h : ptElem v = some (numD b, ps)) : v = .pointer (some ⟨b, 0, none⟩) := by
  unfold ptElem at h
  split at h <;> simp [numD] at h
  have e : _ = b := Int.ofNat.inj h.1
  subst e
  rfl
theorem pt_nil {v : Value} {ps : List MemPlace} (h : ptElem v = some (.nil, ps)) : v = .pointer none := by
  unfold ptElem at h
  split at h <;> simp [numD] at h
  rfl

theorem ps_new (w : World) (B : Nat) (hB : B ≤ w.heap.size) : PS (w.alloc (.cells #[.slice none 0 0] 83)) B w.heap.size (.slice none 0 0) (.slice none 0 0) [] :=
  ⟨RowAt.new w [.slice none 0 0] 83, hB, .inl ⟨rfl, rfl, World.ownsRow_nil _ _ _ _⟩⟩

theorem setOf_any {A : Tags} {B m : Nat} {tg : Nat} {lt : Nat → Lit} {κ : Nat → Nat} {ps : Nat → Nat × Nat} {K N : Nat} {D : DataW Unit} {sd : Nat → SD} (s : ByteArray) (w : World) (h : GS w A B m tg lt κ ps K N D sd) (hinj : ∀ i j, lt (κ i) = lt (κ j) → κ i = κ j)
    (hkey : keyOf Yba.prog 9 (.string s) = some (lt (κ K))) (hNK : N ≤ K) (hK : K ≤ 1000) (hB : B ≤ w.heap.size) :
    Calls Yba.prog 13 #[.map (some m), .string s] w fun r w' => ∃ D' sd', r = .returned (.pointer (some ⟨(sd' K).b, 0, none⟩)) ∧ GS w' (ext A w.heap.size (tg, some (κ K))) B m tg lt κ ps (K + 1) N D' sd' ∧ Chg (fun k => k = m) w w' := by
  have hA : ∀ k, k < w.heap.size → ext A w.heap.size (tg, some (κ K)) k = A k := fun k hk => ext_old hk
  obtain ⟨v, pp, hrun, hv⟩ := World.ownsMap.look_ok h.own key9 Yba.underlying52 (zero61 w) (zd := .nil) (zp := []) rfl hkey
  cases hs : has D (lt (κ K)) with
  | true =>
    have h1 := h.again hinj hs
    rw [h1.at_ K (by omega)] at hv
    have e := pt_num hv
    subst e
    rw [hs] at hrun
    have H1 := hide h1
    have HA := hide hA
    clear h1 hA hv h hkey
    go_enter Yba.func13, Yba.ntmps13
    go_wp2_with fail
    go_ret
    exact ⟨D, sd, rfl, H1.out.kept (F := fun _ => False) (Chg.refl _ _) (fun _ hx => hx.elim) HA.out, Chg.refl _ _⟩
  | false =>
    have hat := atKey_of_not_has hs
    rw [hat] at hv
    have e := pt_nil hv
    subst e
    rw [hs] at hrun
    have H := hide h
    have HA := hide hA
    have HK := hide hkey
    have hown := h.own
    clear h hA hv hat hkey
    go_enter Yba.func13, Yba.ntmps13
    go_wp2_with (at_mapUpdate; refine wpList_mapUpdate_own _ rfl _ _ _ 52 rfl 9 61 key9 Yba.underlying52 ptElem m K D rfl (World.ownsMap.alloc hown _) (by unfold maxLen; omega) _ _ _ rfl rfl HK.out (numD w.heap.size) [] rfl ?_; intro w4 hown4 hg4; go_frame)
    go_ret
    have hml := H.out.own.lt
    have hc : Chg (fun k => k = m) w w4 := Chg.trans (F1 := fun k => k = m) ((Chg.refl _ _).alloc _) (Chg.of_grown hg4 (fun k e => .inl (by cases e; rfl))) (fun k hk => .inl hk)
    have hps : PS w4 B w.heap.size (.slice none 0 0) (.slice none 0 0) [] := (ps_new w B hB).chg (F := fun k => k = m) (Chg.of_grown hg4 (fun k e => .inl (by cases e; rfl))) (fun k hk hf => by
      rcases hk with hk | hk | hk
      · have : k = m := hf
        omega
      · cases hk
      · cases hk)
    refine ⟨_, _, ?_, H.out.fresh hinj key9 HK.out hs hNK hown4 hps hc HA.out (ext_new (Nat.le_refl _)), hc⟩
    simp
end Go.Proofs.Ybulkdaie.Scr
