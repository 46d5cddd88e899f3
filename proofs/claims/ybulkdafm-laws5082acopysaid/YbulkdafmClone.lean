/-
  The tree of maps in memory, and the walk of clone.
-/
import Derived.Test.YbulkdafmName
namespace Go.Proofs.Ybulkdafm
open Go.RowKit Go.Maps
set_option linter.unusedVariables false
set_option linter.unusedSimpArgs false

/-- How an element that is a map reads: the number of its block. -/
def sub : Option Nat → DataW Unit
  | none => .nil
  | some b => .lit (.int .i64 (b : Int))
def subElem : Value → Option (DataW Unit × List MemPlace)
  | .map o => some (sub o, [])
  | _ => none
theorem subElem_inv {v : Value} {y : DataW Unit × List MemPlace} (h : subElem v = some y) : ∃ o, v = .map o ∧ y = (sub o, []) := by
  cases v <;> simp [subElem] at h
  exact ⟨_, rfl, h.symm⟩
theorem sub_inj {o o' : Option Nat} (h : sub o = sub o') : o = o' := by
  cases o <;> cases o' <;> simp [sub] at h ⊢
  omega
theorem law : Keyed Yba.prog 9 := string_keyed Yba.underlying9
theorem zeroE (w : World) : (zeroValue 24).run Yba.prog w = .ok (.map none) w := by kernel_rfl
theorem key_inv {key : Value} {kl : Lit} (h : keyOf Yba.prog 9 key = some kl) : ∃ s, key = .string s := by
  cases key <;> simp [keyOf, Yba.underlying9, mapKey] at h
  exact ⟨_, rfl⟩

/-- Block b is a map of at most n entries that reads as D. -/
def Own (w : World) (b n : Nat) (D : DataW Unit) : Prop := w.ownsMap Yba.prog 9 subElem b n D
theorem Own.of_block {w w' : World} {b n : Nat} {D : DataW Unit} (h : Own w b n D) (hb : w'.heap[b]? = w.heap[b]?) : Own w' b n D := by
  obtain ⟨es, clock, h1, r⟩ := h
  exact ⟨es, clock, hb.trans h1, r⟩

/-- The nodes: each ok block owns its map; what it leads to is nil or an ok block that was made later. -/
structure Src (w : World) (ok : Nat → Prop) (Dm : Nat → DataW Unit) : Prop where
  own : ∀ b, ok b → Own w b 2000 (Dm b)
  kids : ∀ b kl, ok b → has (Dm b) kl = true → ∃ o, (∀ zd, (Dm b).atKey kl zd = sub o) ∧ ∀ c, o = some c → ok c ∧ b < c
theorem Src.below {w w' : World} {ok : Nat → Prop} {Dm : Nat → DataW Unit} {B : Nat} (h : Src w ok Dm) (hlt : ∀ c, ok c → c < B) (hb : Below B w w') : Src w' ok Dm :=
  ⟨fun b hk => (h.own b hk).of_block (hb.block b (hlt b hk)), h.kids⟩

/-- What two elements have to do with one another. -/
def Pair (S : Nat → Nat → Prop) (o o' : Option Nat) : Prop := (o = none ∧ o' = none) ∨ ∃ c c', o = some c ∧ o' = some c' ∧ S c c'
/-- D' is a copy of D, but for what S relates. -/
def Alike (S : Nat → Nat → Prop) (D D' : DataW Unit) : Prop :=
  (∀ kl, has D' kl = has D kl) ∧ ∀ kl, has D kl = true → ∃ o o', (∀ zd, D.atKey kl zd = sub o) ∧ (∀ zd, D'.atKey kl zd = sub o') ∧ Pair S o o'
/-- .. of those entries that are no longer to come. -/
def Part (S : Nat → Nat → Prop) (D D' : DataW Unit) (left : Lit → Bool) : Prop :=
  (∀ kl, has D' kl = (has D kl && !left kl)) ∧ ∀ kl, has D' kl = true → ∃ o o', (∀ zd, D.atKey kl zd = sub o) ∧ (∀ zd, D'.atKey kl zd = sub o') ∧ Pair S o o'
theorem Pair.mono {S S' : Nat → Nat → Prop} {o o' : Option Nat} (h : Pair S o o') (hS : ∀ c c', S c c' → S' c c') : Pair S' o o' :=
  h.elim .inl (fun ⟨c, c', h1, h2, h3⟩ => .inr ⟨c, c', h1, h2, hS c c' h3⟩)
theorem Alike.mono {S S' : Nat → Nat → Prop} {D D' : DataW Unit} (h : Alike S D D') (hS : ∀ c c', S c c' → S' c c') : Alike S' D D' :=
  ⟨h.1, fun kl hk => by obtain ⟨o, o', h1, h2, h3⟩ := h.2 kl hk; exact ⟨o, o', h1, h2, h3.mono hS⟩⟩
theorem Part.mono {S S' : Nat → Nat → Prop} {D D' : DataW Unit} {left : Lit → Bool} (h : Part S D D' left) (hS : ∀ c c', S c c' → S' c c') : Part S' D D' left :=
  ⟨h.1, fun kl hk => by obtain ⟨o, o', h1, h2, h3⟩ := h.2 kl hk; exact ⟨o, o', h1, h2, h3.mono hS⟩⟩
theorem Part.start (S : Nat → Nat → Prop) (D : DataW Unit) : Part S D (.map []) (has D) :=
  ⟨fun k => by cases has D k <;> rfl, fun k h => by cases h⟩
theorem Part.step {S : Nat → Nat → Prop} {D D' : DataW Unit} {left : Lit → Bool} {kl : Lit} {o o' : Option Nat} (h : Part S D D' left) (hm : IsMap D') (hk : WideAt.IsKeyLit kl) (hat : ∀ zd, D.atKey kl zd = sub o) (hp : Pair S o o') :
    Part S D (D'.put kl (sub o')) (fun z => left z && !z.sameKey kl) := by
  refine ⟨fun k => ?_, fun k hh => ?_⟩
  · by_cases e : k = kl
    · subst e
      show has (D'.put k (sub o')) k = (has D k && !(left k && !k.sameKey k))
      rw [has_put_same hm hk, has_true_of_atKey hat, WideAt.sameKey_self hk]
      simp
    · show has (D'.put kl (sub o')) k = (has D k && !(left k && !k.sameKey kl))
      rw [has_put_other e, h.1 k, sameKey_ne e]
      simp
  · by_cases e : k = kl
    · subst e
      exact ⟨o, o', hat, fun zd => atKey_put_same hm hk _ _, hp⟩
    · rw [has_put_other e] at hh
      obtain ⟨p, p', h1, h2, h3⟩ := h.2 k hh
      exact ⟨p, p', h1, fun zd => by rw [atKey_put_other e, h2], h3⟩
theorem Part.done {S : Nat → Nat → Prop} {D D' : DataW Unit} {left : Lit → Bool} (h : Part S D D' left) (hl : ∀ k, left k = false) : Alike S D D' :=
  ⟨fun k => by rw [h.1, hl]; simp, fun k hk => h.2 k (by rw [h.1, hl, hk]; rfl)⟩

/-- S relates nodes to their copies; all copies lie from block lo on. -/
def Sim (w : World) (lo : Nat) (Dm : Nat → DataW Unit) (S : Nat → Nat → Prop) : Prop := ∀ b b', S b b' → lo ≤ b' ∧ ∃ D', Own w b' 2000 D' ∧ Alike S (Dm b) D'
theorem Sim.kept {w w' : World} {lo : Nat} {Dm : Nat → DataW Unit} {S : Nat → Nat → Prop} (h : Sim w lo Dm S) (hb : ∀ k, lo ≤ k → k < w.heap.size → w'.heap[k]? = w.heap[k]?) : Sim w' lo Dm S := by
  intro b b' hs
  obtain ⟨h1, D', h2, h3⟩ := h b b' hs
  exact ⟨h1, D', h2.of_block (hb b' h1 (World.ownsMap.lt h2)), h3⟩
theorem Sim.both {w : World} {lo lo' : Nat} {Dm : Nat → DataW Unit} {S S' : Nat → Nat → Prop} (h : Sim w lo Dm S) (h' : Sim w lo' Dm S') (hl : lo ≤ lo') : Sim w lo Dm (fun b b' => S b b' ∨ S' b b') := by
  rintro b b' (hs | hs)
  · obtain ⟨h1, D', h2, h3⟩ := h b b' hs
    exact ⟨h1, D', h2, h3.mono fun _ _ => .inl⟩
  · obtain ⟨h1, D', h2, h3⟩ := h' b b' hs
    exact ⟨Nat.le_trans hl h1, D', h2, h3.mono fun _ _ => .inr⟩
theorem Sim.one {w : World} {lo lo' : Nat} {Dm : Nat → DataW Unit} {S : Nat → Nat → Prop} {b b' : Nat} {D' : DataW Unit} (h : Sim w lo' Dm S) (hl : lo ≤ lo') (hlb : lo ≤ b') (ho : Own w b' 2000 D') (ha : Alike S (Dm b) D') : Sim w lo Dm (fun c c' => S c c' ∨ (c = b ∧ c' = b')) := by
  rintro c c' (hs | ⟨rfl, rfl⟩)
  · obtain ⟨h1, D', h2, h3⟩ := h c c' hs
    exact ⟨Nat.le_trans hl h1, D', h2, h3.mono fun _ _ => .inl⟩
  · exact ⟨hlb, D', ho, ha.mono fun _ _ => .inl⟩
theorem Sim.none (w : World) (lo : Nat) (Dm : Nat → DataW Unit) : Sim w lo Dm (fun _ _ => False) := fun _ _ h => h.elim

/-- What clone leaves. -/
def ClonePost (w w' : World) (Dm : Nat → DataW Unit) (b : Nat) (e : Ending) : Prop :=
  ∃ b' S, e = .returned (.map (some b')) ∧ S b b' ∧ Sim w' w.heap.size Dm S ∧ Below w.heap.size w w'

theorem Below.grownNone {w w' : World} (h : Below w.heap.size w w') : w.grownBy w' none := ⟨h.os, h.tape, h.output, h.size, fun k hk _ => h.block k hk⟩

theorem eql_nil (w : World) : (binOp .eql 24 (.map none) (.map none)).run Yba.prog w = .ok (.bool true) w := by kernel_rfl
theorem eql_some (b : Nat) (w : World) : (binOp .eql 24 (.map (some b)) (.map none)).run Yba.prog w = .ok (.bool false) w := by kernel_rfl
theorem neq_nil (w : World) : (binOp .neq 24 (.map none) (.map none)).run Yba.prog w = .ok (.bool false) w := by kernel_rfl
theorem neq_some (b : Nat) (w : World) : (binOp .neq 24 (.map (some b)) (.map none)).run Yba.prog w = .ok (.bool true) w := by kernel_rfl
theorem make_hint (n : Int) (w : World) : (Instr.makeMap 24 (some (.int .i64 n))).run Yba.prog w = .ok (.map (some w.heap.size)) (w.alloc (.map #[] 0)) := by kernel_rfl

theorem clone_nil (w : World) : Calls Yba.prog 4 #[.map none] w fun e w' => e = .returned (.map none) ∧ w' = w := by
  have heq := eql_nil
  go_enter Yba.func4, Yba.ntmps4
  go_wp2_with fail
  go_ret
  exact ⟨rfl, rfl⟩

set_option maxHeartbeats 2000000 in
set_option maxRecDepth 100000 in
theorem clone_any (ok : Nat → Prop) (Dm : Nat → DataW Unit) (lim : Nat) (hlim : ∀ c, ok c → c < lim) : ∀ (d b : Nat) (w : World), lim - b ≤ d → lim ≤ w.heap.size → ok b → Src w ok Dm →
    Calls Yba.prog 4 #[.map (some b)] w fun e w' => ClonePost w w' Dm b e := by
  intro d
  induction d with
  | zero => intro b w h1 h2 h3; have := hlim b h3; omega
  | succ d ih =>
    intro b w hd hw hok hsrc
    have heq := eql_some
    have hmk := make_hint
    have hbl := hlim b hok
    have e1 : (w.alloc (.map #[] 0)).heap.size = w.heap.size + 1 := by simp
    have hown : w.ownsMap Yba.prog 9 subElem b 2000 (Dm b) := hsrc.own b hok
    have HSRC := hide hsrc
    have HIH := hide ih
    have HLIM := hide hlim
    clear hsrc ih hlim
    go_enter Yba.func4, Yba.ntmps4
    go_wp2_with (first
      | (at_len; refine wpList_len_own _ rfl _ 24 rfl 9 24 Yba.underlying24 _ b 2000 (Dm b) rfl hown ?_)
      | (at_range; refine wpList_range_own _ rfl _ 24 rfl 9 24 law Yba.underlying24 _ b 2000 (Dm b) rfl (hown.alloc _) ?_; intro w0 hrg0 hg0 hs0))
    go_frame
    rw [e1] at hrg0 hs0 ⊢
    have hbelA : Below w.heap.size w w0 := ((Below.refl _ _).alloc (Nat.le_refl _) _).grown hg0 (by simp) (fun j hj => by cases hj)
    have hmade : Own w0 w.heap.size 0 (.map []) := (World.ownsMap_made w Yba.prog 9 subElem).kept hg0 (by simp)
    have hsz0 := World.ownsMap.size_le hown
    have HRG := hide hrg0
    have HMADE := hide hmade
    clear hg0 hrg0 hmade heq hmk e1
    go_loopg [] 2000 (fun gk wr => ∃ (left : Lit → Bool) (cnt : Nat) (Dout : DataW Unit) (m : Nat) (S : Nat → Nat → Prop), cnt ≤ gk ∧ m + cnt ≤ 2000 ∧ wr.ranges Yba.prog 9 subElem b (w.heap.size + 1) 2000 (Dm b) left cnt ∧ Own wr w.heap.size m Dout ∧ Part S (Dm b) Dout left ∧ Sim wr (w.heap.size + 2) Dm S ∧ w.heap.size + 2 ≤ wr.heap.size ∧ Below w.heap.size w wr)
    case atStart => exact ⟨_, _, .map [], 0, fun _ _ => False, hsz0, by omega, HRG.out, HMADE.out, Part.start _ _, Sim.none _ _ _, by omega, hbelA⟩
    case round =>
      clear HRG HMADE hbelA hs0
      obtain ⟨left, cnt, Dout, m, S, hgk, hmc, hrg, hout, hpart, hsim, hws, hbel⟩ := hrel
      have HOUT := hide hout
      have HPART := hide hpart
      have HSIM := hide hsim
      have HBEL := hide hbel
      clear hout hpart hsim hbel
      go_wp2_with (at_next; refine wpList_next_ranges _ rfl _ rfl 9 law subElem Value.string Value.map (fun key kl h => key_inv h) (fun v y h => by obtain ⟨o, h1, _⟩ := subElem_inv h; exact ⟨o, h1⟩) b (w.heap.size + 1) 2000 _ _ _ rfl hrg ?_ ?_)
      · intro hc0 hl0
        go_wp2_with fail
        go_ret
        refine ⟨_, _, rfl, .inr ⟨rfl, rfl⟩, HSIM.out.one (by omega) (Nat.le_refl _) (World.ownsMap.mono HOUT.out (by omega)) (HPART.out.done hl0), HBEL.out⟩
      · intro x o kl y y2 w1 cnt1 hkey hlk hRv hat hrg1 hlt hg1 hs1 hen
        have hy : y = sub o := by
          obtain ⟨o', ho', hy⟩ := subElem_inv hRv
          cases ho'
          exact congrArg Prod.fst hy
        rw [hy] at hat
        have hKL := law.key hkey
        have hbel1 : Below w.heap.size w w1 := HBEL.out.grown hg1 HBEL.out.size (fun j hj => by cases hj; omega)
        have hout1 : Own w1 w.heap.size m Dout := World.ownsMap.kept HOUT.out hg1 (by simp)
        have hsim1 : Sim w1 (w.heap.size + 2) Dm S := HSIM.out.kept fun k h1 h2 => hg1.block k h2 (by simp; omega)
        have HR1 := hide hrg1
        have HO1 := hide hout1
        have HS1 := hide hsim1
        have HAT := hide hat
        have HKEY := hide hkey
        have HB1 := hide hbel1
        clear hrg hrg1 hout1 hsim1 hat hkey hlk hRv hy hg1 HSIM HOUT HBEL hown hbel1
        have hkid := HSRC.out.kids b kl hok (has_true_of_atKey HAT.out)
        cases o with
        | none =>
          clear hkid
          go_wp2_with (first | (go_at_call 4; refine (clone_nil _).mono ?_; rintro e w2 ⟨rfl, rfl⟩) | (at_mapUpdate; refine wpList_mapUpdate_own _ rfl _ _ _ 24 rfl 9 24 law Yba.underlying24 subElem w.heap.size m Dout rfl HO1.out (by unfold maxLen; omega) _ _ _ rfl rfl HKEY.out (sub none) [] rfl ?_; intro w3 hout3 hg3; go_frame))
          have hrg3 := HR1.out.kept hg3 (fun e => by have := Option.some.inj e; omega) (fun e => by have := Option.some.inj e; omega)
          go_roundg (gk - 1)
          case measure => omega
          case rel =>
            exact ⟨_, cnt1, _, m + 1, S, by omega, by omega, hrg3, hout3, HPART.out.step (World.ownsMap.isMap HO1.out) hKL HAT.out (.inl ⟨rfl, rfl⟩), HS1.out.kept (fun k h1 h2 => hg3.block k h2 (by simp; omega)), by have := hg3.size; omega,
              HB1.out.grown hg3 HB1.out.size (fun j hj => by cases hj; exact Nat.le_refl _)⟩
        | some c =>
          obtain ⟨o2, hat2, hc⟩ := hkid
          have ho2 : o2 = some c := sub_inj ((hat2 .nil).symm.trans (HAT.out .nil))
          obtain ⟨hokc, hbc⟩ := hc c ho2
          have hcl := HLIM.out c hokc
          clear hat2 hc ho2 o2
          have hlw1 : lim ≤ w1.heap.size := by have := HB1.out.size; omega
          have HCL := hide (HIH.out c w1 (by omega) hlw1 hokc (HSRC.out.below (fun c' h => Nat.lt_of_lt_of_le (HLIM.out c' h) hw) HB1.out))
          go_wp2_with (first | (go_at_call 4; refine HCL.out.mono ?_; rintro e w2 ⟨c', S', rfl, hSc, hsim', hbel2⟩; have hgn := Below.grownNone hbel2; have hout2 : Own w2 w.heap.size m Dout := World.ownsMap.kept HO1.out hgn (by simp)) | (at_mapUpdate; refine wpList_mapUpdate_own _ rfl _ _ _ 24 rfl 9 24 law Yba.underlying24 subElem w.heap.size m Dout rfl hout2 (by unfold maxLen; omega) _ _ _ rfl rfl HKEY.out (sub (some c')) [] rfl ?_; intro w3 hout3 hg3; go_frame))
          have hrg3 := (HR1.out.kept hgn (by simp) (by simp)).kept hg3 (fun e => by have := Option.some.inj e; omega) (fun e => by have := Option.some.inj e; omega)
          have hs12 := hbel2.size
          have hs23 := hg3.size
          go_roundg (gk - 1)
          case measure => omega
          case rel =>
            refine ⟨_, cnt1, _, m + 1, fun a a' => S a a' ∨ S' a a', by omega, by omega, hrg3, hout3, (HPART.out.mono fun _ _ => .inl).step (World.ownsMap.isMap HO1.out) hKL HAT.out (.inr ⟨c, c', rfl, rfl, .inr hSc⟩), ?_, by omega, ?_⟩
            · have h1 : Sim w2 (w.heap.size + 2) Dm S := HS1.out.kept fun k h1 h2 => hbel2.block k h2
              exact (h1.both hsim' (by omega)).kept fun k h1 h2 => hg3.block k h2 (by simp; omega)
            · exact (HB1.out.trans (hbel2.mono (by have := HB1.out.size; omega))).grown hg3 (by have := HB1.out.size; omega) (fun j hj => by cases hj; exact Nat.le_refl _)

end Go.Proofs.Ybulkdafm
