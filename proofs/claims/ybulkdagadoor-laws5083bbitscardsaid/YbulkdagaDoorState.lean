/-
  The inflater and its source in memory.
-/
import Derived.Test.YbulkdagaDoorNext
namespace Go.Proofs.YbulkdagaDoor
open Go.RowKit
set_option linter.unusedVariables false
set_option linter.unusedSimpArgs false

/-- The cells of the inflater: the rest Z is never looked at. -/
def zCells (sB : Nat) (inn : Value) (bits nb : Nat) (serr : Value) (Z : List Value) : List Value :=
  .iface 26 (.pointer (some ⟨sB, 0, none⟩)) :: inn :: .int .u64 (bits : Int) :: .int .u64 (nb : Int) :: serr :: Z
/-- The bytes of the stream. -/
def dCells (X n : Nat) : List Value := (List.range n).map fun i => Value.int .u8 ((X / 2 ^ (8 * i) % 256 : Nat) : Int)
theorem dCells_get (X n i : Nat) (h : i < n) : (dCells X n)[i]? = some (.int .u8 ((X / 2 ^ (8 * i) % 256 : Nat) : Int)) := by
  simp [dCells, List.getElem?_range h]
/-- What the cuts hold in the memory that came in. -/
def Cuts (w0 : World) (ca : Option Addr) (cl : Nat) : Prop := ∀ k, k < cl → ∃ cb co q, ca = some ⟨cb, co, none⟩ ∧ w0.cell? ⟨cb, co + k, none⟩ = some (.int .u8 q) ∧ 0 ≤ q ∧ q ≤ 255

theorem RowAt.below {w w' : World} {g : Nat} {t : TypeId} {L : List Value} (h : RowAt w g t L) (hb : Below w.heap.size w w') : RowAt w' g t L := by
  have hl := h.lt
  unfold RowAt at h ⊢
  rw [hb.block g hl]; exact h

/-- All but the inflater's own cells. -/
structure Env (w0 w : World) (zB sB gd n X : Nat) (ca : Option Addr) (cl cc : Nat) (E : Value) (k pt : Nat) (ends : Int) : Prop where
  s : RowAt w sB 28 (srcCells gd n ca cl cc k pt E ends)
  d : RowAt w gd 5 (dCells X n)
  below : Below w0.heap.size w0 w
  oz : w0.heap.size ≤ zB
  os : w0.heap.size ≤ sB
  zs : zB ≠ sB
  gz : gd ≠ zB
  gs : gd ≠ sB
  cuts : Cuts w0 ca cl
  n4 : n ≤ 4096
  c4 : cl ≤ 4096

section
variable {w0 w w' : World} {zB sB gd n X : Nat} {ca : Option Addr} {cl cc : Nat} {E : Value} {k pt : Nat} {ends : Int}

theorem Env.zg (h : Env w0 w zB sB gd n X ca cl cc E k pt ends) (hg : w.grownBy w' (some zB)) : Env w0 w' zB sB gd n X ca cl cc E k pt ends :=
  have zs := h.zs
  have gz := h.gz
  ⟨h.s.grown hg (by simp; omega), h.d.grown hg (by simp; omega), h.below.grown hg h.below.size (fun j e => by cases e; exact h.oz), h.oz, h.os, zs, gz, h.gs, h.cuts, h.n4, h.c4⟩
theorem Env.sg (h : Env w0 w zB sB gd n X ca cl cc E k pt ends) {k' pt' : Nat} {ends' : Int} (hg : w.grownBy w' (some sB)) (hs : RowAt w' sB 28 (srcCells gd n ca cl cc k' pt' E ends')) : Env w0 w' zB sB gd n X ca cl cc E k' pt' ends' :=
  have gs := h.gs
  ⟨hs, h.d.grown hg (by simp; omega), h.below.grown hg h.below.size (fun j e => by cases e; exact h.os), h.oz, h.os, h.zs, h.gz, gs, h.cuts, h.n4, h.c4⟩
theorem Env.bel (h : Env w0 w zB sB gd n X ca cl cc E k pt ends) (hb : Below w.heap.size w w') : Env w0 w' zB sB gd n X ca cl cc E k pt ends :=
  ⟨h.s.below hb, h.d.below hb, h.below.trans (hb.mono h.below.size), h.oz, h.os, h.zs, h.gz, h.gs, h.cuts, h.n4, h.c4⟩
theorem Env.drewN (h : Env w0 w zB sB gd n X ca cl cc E k pt ends) (m : Nat) : Env w0 (w.drewN m) zB sB gd n X ca cl cc E k pt ends :=
  ⟨h.s, h.d, below_drewN h.below m, h.oz, h.os, h.zs, h.gz, h.gs, h.cuts, h.n4, h.c4⟩
theorem Env.cut (h : Env w0 w zB sB gd n X ca cl cc E k pt ends) : k < cl → ∃ cb co q, ca = some ⟨cb, co, none⟩ ∧ w.cell? ⟨cb, co + k, none⟩ = some (.int .u8 q) ∧ 0 ≤ q ∧ q ≤ 255 := by
  intro hk
  obtain ⟨cb, co, q, h1, h2, h3⟩ := h.cuts k hk
  exact ⟨cb, co, q, h1, (h.below.cell (p := ⟨cb, co + k, none⟩) (World.block_lt_of_cell? _ _ h2)).trans h2, h3⟩
end

/-- The inflater's numbers. -/
structure Zn (X n pos p pt bits nb : Nat) (gd : Nat) (inn : Value) : Prop where
  ptn : pt ≤ n
  ppt : p ≤ pt
  pn : pos + nb = 8 * p
  nb64 : nb < 64
  b64 : bits < 2 ^ 64
  fit : Num.Fit X pos bits nb
  inn : ∃ ao c, inn = .slice ao (pt - p) c ∧ pt - p ≤ c ∧ c ≤ 4096 ∧ (p < pt → ao = some ⟨gd, p, none⟩)

/-- All of it. -/
def ZI (w0 w : World) (zB sB gd n X : Nat) (ca : Option Addr) (cl cc : Nat) (E : Value) (Z : List Value) (pos bits nb : Nat) (ended : Bool) : Prop :=
  ∃ k pt p inn, RowAt w zB 46 (zCells sB inn bits nb (if ended then E else .nilIface) Z) ∧ Env w0 w zB sB gd n X ca cl cc E k pt (if ended then 1 else 0) ∧ Zn X n pos p pt bits nb gd inn ∧ k ≤ pt ∧ (ended = true → p = n)

theorem and_mask (bits nb : Nat) (hb : bits < 2 ^ 64) (hnb : nb < 64) : Go.bits .and .u64 (bits : Int) (IntKind.u64.wrap (IntKind.u64.wrap (2 ^ nb) - 1)) = ((bits % 2 ^ nb : Nat) : Int) := by
  have h2 : 2 ^ nb < 2 ^ 64 := Nat.pow_lt_pow_right (by omega) hnb
  have h1 : 0 < 2 ^ nb := Nat.two_pow_pos nb
  have e1 : IntKind.u64.wrap (IntKind.u64.wrap ((2 : Int) ^ nb) - 1) = ((2 ^ nb - 1 : Nat) : Int) := by
    rw [show ((2 : Int) ^ nb) = ((2 ^ nb : Nat) : Int) by simp, IntKind.wrap_u64, IntKind.wrap_u64]
    generalize 2 ^ nb = y at *
    omega
  rw [e1, bits_and_u64_nat _ _ (by simpa using hb) (by generalize 2 ^ nb = y at *; omega), Nat.and_two_pow_sub_one_eq_mod]

/-- Inside refill: the bits above those counted are clear. -/
structure LI (w0 w : World) (zB sB gd n X : Nat) (ca : Option Addr) (cl cc : Nat) (E : Value) (Z : List Value) (pos bits nb k pt p : Nat) (inn : Value) (ended : Bool) : Prop where
  row : RowAt w zB 46 (zCells sB inn bits nb (if ended then E else .nilIface) Z)
  env : Env w0 w zB sB gd n X ca cl cc E k pt (if ended then 1 else 0)
  num : Zn X n pos p pt bits nb gd inn
  kp : k ≤ pt
  fin : ended = true → p = n
  low : bits < 2 ^ nb

section
variable {w0 w w' : World} {zB sB gd n X : Nat} {ca : Option Addr} {cl cc : Nat} {E : Value} {Z : List Value} {pos bits nb k pt p : Nat} {inn : Value} {ended : Bool}

theorem LI.zi (h : LI w0 w zB sB gd n X ca cl cc E Z pos bits nb k pt p inn ended) : ZI w0 w zB sB gd n X ca cl cc E Z pos bits nb ended :=
  ⟨k, pt, p, inn, h.row, h.env, h.num, h.kp, h.fin⟩
theorem LI.eq (h : LI w0 w zB sB gd n X ca cl cc E Z pos bits nb k pt p inn ended) : bits = X / 2 ^ pos % 2 ^ nb := by
  have := h.num.fit
  unfold Num.Fit at this
  rw [Nat.mod_eq_of_lt h.low] at this
  exact this
theorem LI.masked (hr : RowAt w zB 46 (zCells sB inn bits nb (if ended then E else .nilIface) Z)) (he : Env w0 w zB sB gd n X ca cl cc E k pt (if ended then 1 else 0)) (hn : Zn X n pos p pt bits nb gd inn) (hk : k ≤ pt) (hf : ended = true → p = n) :
    LI w0 (w.setCell ⟨zB, 2, none⟩ (.int .u64 ((bits % 2 ^ nb : Nat) : Int))).drew zB sB gd n X ca cl cc E Z pos (bits % 2 ^ nb) nb k pt p inn ended := by
  have hg := grown_setCell (World.grownBy.refl w (some zB)) 2 (.int .u64 ((bits % 2 ^ nb : Nat) : Int))
  refine ⟨hr.setCell 2 _, (he.zg hg).drewN 1, ⟨hn.ptn, hn.ppt, hn.pn, hn.nb64, ?_, ?_, hn.inn⟩, hk, hf, Nat.mod_lt _ (Nat.two_pow_pos _)⟩
  · exact Nat.lt_of_le_of_lt (Nat.mod_le _ _) hn.b64
  · have := hn.fit
    unfold Num.Fit at this ⊢
    rw [Nat.mod_mod, this]

theorem LI.byted (h : LI w0 w zB sB gd n X ca cl cc E Z pos bits nb k pt p inn ended) (hnb : nb < 56) (hp : p < pt) (ao' : Option Addr) (c' : Nat) (hc : pt - p - 1 ≤ c') (hc4 : c' ≤ 4096) (hao : p + 1 < pt → ao' = some ⟨gd, p + 1, none⟩)
    (hr : RowAt w' zB 46 (zCells sB (.slice ao' (pt - p - 1) c') (bits + X / 2 ^ (8 * p) % 256 * 2 ^ nb) (nb + 8) (if ended then E else .nilIface) Z)) (hg : w.grownBy w' (some zB)) :
    LI w0 w' zB sB gd n X ca cl cc E Z pos (bits + X / 2 ^ (8 * p) % 256 * 2 ^ nb) (nb + 8) k pt (p + 1) (.slice ao' (pt - p - 1) c') ended := by
  have hpn := h.num.pn
  have e := Num.byte_in h.eq hpn
  have hlt : X / 2 ^ pos % 2 ^ (nb + 8) < 2 ^ (nb + 8) := Nat.mod_lt _ (Nat.two_pow_pos _)
  have hptn := h.num.ptn
  refine ⟨hr, h.env.zg hg, ⟨hptn, by omega, by omega, by omega, ?_, ?_, ⟨ao', c', by rw [Nat.sub_sub], by omega, hc4, hao⟩⟩, h.kp, fun he => ?_, ?_⟩
  · rw [e]; exact Nat.lt_of_lt_of_le hlt (Nat.pow_le_pow_right (by omega) (by omega))
  · unfold Num.Fit; rw [e, Nat.mod_mod]
  · have := h.fin he; omega
  · rw [e]; exact hlt
theorem LI.data (h : LI w0 w zB sB gd n X ca cl cc E Z pos bits nb k pt p inn ended) (i : Nat) (hi : i < n) : w.cell? ⟨gd, i, none⟩ = some (.int .u8 ((X / 2 ^ (8 * i) % 256 : Nat) : Int)) := by
  rw [h.env.d.cell, dCells_get X n i hi]
end

/-- What refill leaves. -/
def RefPost (w0 w' : World) (zB sB gd n X : Nat) (ca : Option Addr) (cl cc : Nat) (E : Value) (Z : List Value) (pos nb : Nat) : Prop :=
  ∃ bits' nb' ended', ZI w0 w' zB sB gd n X ca cl cc E Z pos bits' nb' ended' ∧ nb ≤ nb' ∧ (56 ≤ nb' ∨ ended' = true)

section
variable {w0 w w' w2 : World} {zB sB gd n X : Nat} {ca : Option Addr} {cl cc : Nat} {E : Value} {Z : List Value} {pos bits nb k pt p : Nat} {inn : Value}

theorem LI.more (h : LI w0 w zB sB gd n X ca cl cc E Z pos bits nb k pt pt inn false) {pt' : Nat} (h1 : pt < pt') (h2 : pt' ≤ n) (hs : RowAt w2 sB 28 (srcCells gd n ca cl cc (k + 1) pt' E 0)) (hg : w.grownBy w2 (some sB)) :
    LI w0 ((w2.setCell ⟨zB, 1, none⟩ (.slice (some ⟨gd, pt, none⟩) (pt' - pt) (n - pt))).setCell ⟨zB, 4, none⟩ .nilIface) zB sB gd n X ca cl cc E Z pos bits nb (k + 1) pt' pt (.slice (some ⟨gd, pt, none⟩) (pt' - pt) (n - pt)) false := by
  have zs := h.env.zs
  have hr := h.row.grown hg (by simp; omega)
  have he := h.env.sg hg hs
  have hg2 := grown_setCell (grown_setCell (World.grownBy.refl w2 (some zB)) 1 (.slice (some ⟨gd, pt, none⟩) (pt' - pt) (n - pt))) 4 .nilIface
  have hkp := h.kp
  have hn4 := h.env.n4
  exact ⟨(hr.setCell 1 _).setCell 4 _, he.zg hg2, ⟨h2, by omega, h.num.pn, h.num.nb64, h.num.b64, h.num.fit, ⟨_, _, rfl, by omega, by omega, fun _ => rfl⟩⟩, by omega, (fun he => by cases he), h.low⟩
theorem LI.stop (h : LI w0 w zB sB gd n X ca cl cc E Z pos bits nb k n n inn false) (hs : RowAt w2 sB 28 (srcCells gd n ca cl cc k n E (0 + 1))) (hg : w.grownBy w2 (some sB)) :
    ZI w0 (((w2.setCell ⟨zB, 1, none⟩ (.slice none 0 0)).setCell ⟨zB, 4, none⟩ E).setCell ⟨zB, 1, none⟩ (.slice none 0 0)) zB sB gd n X ca cl cc E Z pos bits nb true := by
  have zs := h.env.zs
  have hr := h.row.grown hg (by simp; omega)
  have he := h.env.sg hg hs
  have hg2 := grown_setCell (grown_setCell (grown_setCell (World.grownBy.refl w2 (some zB)) 1 (.slice none 0 0)) 4 E) 1 (.slice none 0 0)
  have hn4 := h.env.n4
  exact ⟨k, n, n, .slice none 0 0, ((hr.setCell 1 _).setCell 4 _).setCell 1 _, he.zg hg2, ⟨Nat.le_refl _, Nat.le_refl _, h.num.pn, h.num.nb64, h.num.b64, h.num.fit, ⟨none, 0, by rw [Nat.sub_self], by omega, by omega, fun h => by omega⟩⟩, h.kp, fun _ => rfl⟩
theorem LI.loaded {ended : Bool} {ao : Option Addr} {c : Nat} (h : LI w0 w zB sB gd n X ca cl cc E Z pos bits nb k pt p (.slice ao (pt - p) c) ended) (hnb : nb < 56) (h8 : 8 ≤ pt - p) (hc : pt - p ≤ c) (hc4 : c ≤ 4096)
    (hr : RowAt w2 zB 46 (zCells sB (.slice ao (pt - p) c) ((bits + X / 2 ^ (8 * p) % 2 ^ 64 * 2 ^ nb) % 2 ^ 64) (56 + nb % 8) (if ended then E else .nilIface) Z)) (he : Env w0 w2 zB sB gd n X ca cl cc E k pt (if ended then 1 else 0)) :
    RefPost w0 (w2.setCell ⟨zB, 1, none⟩ (.slice (some ⟨gd, p + (63 - nb) / 8, none⟩) (pt - p - (63 - nb) / 8) (c - (63 - nb) / 8))) zB sB gd n X ca cl cc E Z pos nb := by
  have hpn := h.num.pn
  have hptn := h.num.ptn
  have hg := grown_setCell (World.grownBy.refl w2 (some zB)) 1 (.slice (some ⟨gd, p + (63 - nb) / 8, none⟩) (pt - p - (63 - nb) / 8) (c - (63 - nb) / 8))
  have hfit := Num.word_in (nb' := 56 + nb % 8) h.eq hpn (by omega)
  refine ⟨_, 56 + nb % 8, ended, ⟨k, pt, p + (63 - nb) / 8, _, hr.setCell 1 _, he.zg hg, ⟨hptn, by omega, by omega, by omega, Nat.mod_lt _ (Nat.two_pow_pos _), hfit, ⟨_, _, by rw [← Nat.sub_sub], by omega, by omega, fun _ => rfl⟩⟩, h.kp, fun hE => ?_⟩, by omega, .inl (by omega)⟩
  have := h.fin hE
  omega
end

def sl : String := String.singleton (Char.ofNat 47)
theorem meth_next (a : Addr) (w : World) : (method 184 26 (.pointer (some a)) ("ex" ++ "ample.com" ++ sl ++ "strata" ++ sl ++ "strata" ++ sl ++ "internal" ++ sl ++ "object.next")).run Ybad.prog w = .ok (25, .pointer (some a)) w := by kernel_rfl

theorem or_byte (bits b nb : Nat) (hb : bits < 2 ^ nb) (hnb : nb < 56) (hb8 : b < 256) : Go.bits .or .u64 (bits : Int) (IntKind.u64.wrap ((b : Int) * 2 ^ nb)) = ((bits + b * 2 ^ nb : Nat) : Int) := by
  rw [or_shift bits b nb hb (by omega), Nat.mod_eq_of_lt]
  have h1 : 2 ^ nb * (b + 1) ≤ 2 ^ nb * 2 ^ 8 := Nat.mul_le_mul_left _ (by omega)
  rw [← Nat.pow_add] at h1
  have h2 : 2 ^ (nb + 8) ≤ 2 ^ 64 := Nat.pow_le_pow_right (by omega) (by omega)
  rw [Nat.mul_add, Nat.mul_one, Nat.mul_comm (2 ^ nb) b] at h1
  omega

end Go.Proofs.YbulkdagaDoor
