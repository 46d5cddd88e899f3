/-
  The walk of zzs5082aname.
-/
import Derived.Test.YbulkdafmKit
namespace Go.Proofs.Ybulkdafm
open Go.RowKit Go.Lib
set_option linter.unusedVariables false
set_option linter.unusedSimpArgs false

theorem info5 : (Yba.prog.info? 5).map (fun i => (i.zero, i.size, i.bytes)) = some (some (.int .u8 0), 1, 1) := by kernel_rfl

def dInts (l : List Nat) : List Value := l.map fun (d : Nat) => Value.int .u8 (d : Int)
theorem dInts_one (l : List Nat) : ∀ u ∈ dInts l, u.oneCell' = true := by
  intro u hu
  obtain ⟨d, _, rfl⟩ := List.mem_map.1 hu
  rfl
/-- A slice of the call's own, its shape told. -/
def Sl (w : World) (base : Nat) (e : TypeId) (v : Value) (n : Nat) (xs : List Value) : Prop := ∃ a c, v = .slice a n c ∧ w.ownsRow base e 1 v n xs

theorem Sl.of {w : World} {base : Nat} {e : TypeId} {v : Value} {n : Nat} {xs : List Value} (h : w.ownsRow base e 1 v n xs) : ∃ a c, v = .slice a n c := by
  rcases h.2 with ⟨rfl, rfl⟩ | ⟨g, cap, cur, rfl, _⟩
  · exact ⟨none, 0, rfl⟩
  · exact ⟨_, cap, rfl⟩

theorem grownBy_none_any {a c : World} (h : a.grownBy c none) (row : Option Nat) : a.grownBy c row := ⟨h.os, h.tape, h.output, h.size, fun i hi _ => h.block i hi (by simp)⟩

theorem foldl_push (ns : List Int) (r : ByteArray) : (ns.foldl (fun (r : ByteArray) (n : Int) => r.push (UInt8.ofNat n.toNat)) r).data = r.data ++ (ns.map fun n => UInt8.ofNat n.toNat).toArray := by
  induction ns generalizing r with
  | nil => simp
  | cons n ns ih =>
    simp only [List.foldl_cons, ih, List.map_cons]
    rw [show (r.push (UInt8.ofNat n.toNat)).data = r.data.push (UInt8.ofNat n.toNat) from rfl]
    simp

def nameInts (s : ByteArray) (i : Nat) : List Int := s.data.toList.map (fun b => (b.toNat : Int)) ++ ([35] ++ (decs i).reverse.map (fun (d : Nat) => (d : Int)))
theorem nameInts_push (s : ByteArray) (i : Nat) : (nameInts s i).foldl (fun (r : ByteArray) (n : Int) => r.push (UInt8.ofNat n.toNat)) ByteArray.empty = nameOf s i := by
  have h := foldl_push (nameInts s i) ByteArray.empty
  cases hx : (nameInts s i).foldl (fun (r : ByteArray) (n : Int) => r.push (UInt8.ofNat n.toNat)) ByteArray.empty with
  | mk d =>
    rw [hx] at h
    unfold nameOf
    congr 1
    simp only at h
    rw [h]
    apply Array.toList_inj.1
    simp [nameInts, nameBytes, ByteArray.empty, ByteArray.emptyWithCapacity, Function.comp_def]
    rfl

set_option maxHeartbeats 2000000 in
set_option maxRecDepth 100000 in
theorem name_any (s : ByteArray) (i : Nat) (w : World) (hs : s.size ≤ 140737488351232) (hi : i < 1024) :
    Calls Yba.prog 5 #[.string s, .int .i64 (i : Int)] w fun e w' => e = .returned (.string (nameOf s i)) ∧ Below w.heap.size w w' := by
  obtain ⟨i0, hi0, hz0, hz1, hz2⟩ := info_parts info5
  go_enter Yba.func5, Yba.ntmps5
  go_upto_if 11 with fail
  go_cut [5] (fun v w1 => ∃ a n c xs, v = .slice a n c ∧ n = xs.length ∧ n ≤ 1 ∧ w1.ownsRow w.heap.size 5 1 (.slice a n c) n (dInts xs) ∧ xs ++ digs 10 i = decs i ∧ Below w.heap.size w w1)
  case first =>
    by_cases h0 : i = 0
    · subst h0
      go_wp2_with (at_builtin; refine wpList_append_own_at _ rfl _ _ 33 rfl w.heap.size 5 i0 (.int .u8 0) 1 1 Yba.underlying33 hi0 hz0 hz1 hz2 rfl (by decide) (.slice none 0 0) 0 [] rfl (World.ownsRow_nil _ _ _ _) ⟨w.heap.size, 0, none⟩ 1 1 [.int .u8 48] rfl rfl (cell_one_new _ _ _) (ints_oneCell .u8 [48]) (by unfold maxLen; omega) (by omega) (by simp) ?_; intro v' w1 hown' hgrow hnil hloc)
      go_meet
      case rel =>
        obtain ⟨a, c, rfl⟩ := Sl.of hown'
        refine ⟨a, _, c, [48], rfl, rfl, by omega, hown', by simp [digs_zero, decs], ?_⟩
        exact ((Below.refl _ _).alloc (Nat.le_refl _) _).grown hgrow (by simp) (by intro k hk; cases hk)
    · have h0i : ((i : Int) == 0) = false := by simp; omega
      go_wp2_with fail
      go_meet
      case rel => exact ⟨none, 0, 0, [], rfl, rfl, by omega, World.ownsRow_nil _ _ _ _, by simp [decs, h0], Below.refl _ _⟩
  case rest =>
    obtain ⟨a, n, c, xs, hu, hn, hn1, hown, hxs, hbel⟩ := hcut
    rw [hu]
    clear hu u5
    have HOWN := hide hown
    have HXS := hide hxs
    have HBEL := hide hbel
    clear hown hxs hbel
    go_wp2_with fail
    go_loopg [1, 5] 10 (fun gk nv dv wr => ∃ (m f : Nat) (a : Option Addr) (n c : Nat) (xs : List Nat), nv = .int .i64 (m : Int) ∧ m < 1024 ∧ m < 10 ^ f ∧ f ≤ gk ∧ dv = .slice a n c ∧ n = xs.length ∧ n + f ≤ 11 ∧ wr.ownsRow w.heap.size 5 1 (.slice a n c) n (dInts xs) ∧ xs ++ digs f m = decs i ∧ Below w.heap.size w wr)
    case atStart => exact ⟨i, 10, a, n, c, xs, rfl, hi, by omega, by omega, rfl, hn, by omega, HOWN.out, HXS.out, HBEL.out⟩
    case round =>
      clear HOWN HXS HBEL hn hn1
      clear n a c xs
      obtain ⟨m, f, a, n, c, xs, rfl, hm, hmf, hfk, rfl, hn, hnf, hown, hxs, hbel⟩ := hrel
      by_cases hm0 : m = 0
      · subst hm0
        have hmi : ¬ (0 : Int) < ((0 : Nat) : Int) := by omega
        rw [digs_zero, List.append_nil] at hxs
        obtain ⟨g, hg⟩ : ∃ g, a = some ⟨g, 0, none⟩ := by
          rcases hown.2 with ⟨h1, h2⟩ | ⟨g, cap, cur, h1, _⟩
          · have := (decs_length i).2
            rw [← hxs] at this
            omega
          · simp only [Value.slice.injEq] at h1
            exact ⟨g, h1.1⟩
        subst hg
        have hl := decs_length i
        rw [← hxs, ← hn] at hl
        have hgl := hown.lt g rfl
        have hdc : ∀ j, j < xs.length → wr.cell? ⟨g, j, none⟩ = some (.int .u8 ((xs.getD j 0 : Nat) : Int)) := by
          intro j hj
          have := hown.cells (g := g) rfl j (.int .u8 ((xs.getD j 0 : Nat) : Int)) (by simp [dInts, List.getD, List.getElem?_eq_getElem hj])
          rwa [WideShapes.add_plain, Nat.zero_add] at this
        have HDC := hide hdc
        have HXS := hide hxs
        have HN := hide hn
        clear hdc hxs hn hown
        have hsz := hbel.size
        have hstr : s.size ≤ 140737488351232 := hs
        go_wp2_with (first | (at_make; refine wpList_make_own _ rfl _ _ 33 rfl w.heap.size 5 i0 (.int .u8 0) 1 Yba.underlying33 hi0 hz0 hz1 _ _ _ (s.size + 1 + n) rfl rfl (by omega) (by rw [hz2]; omega) (by unfold maxLen; omega) (by omega) ?_; intro w1 hown1 hg1) | (at_builtin; refine wpList_append_fits_string _ rfl _ _ 33 9 rfl w.heap.size 5 i0 Yba.underlying33 Yba.underlying9 hi0 hz1 (some ⟨wr.heap.size, 0, none⟩) 0 (s.size + 1 + n) [] rfl hown1 s rfl (by omega) (by omega) ?_; intro w2 hown2 hg2; simp only [Nat.zero_add, List.nil_append] at hown2; have hg12 := (grownBy_none_any hg1 (some wr.heap.size)).trans hg2) | (at_builtin; refine wpList_append_fits _ rfl _ _ 33 rfl w.heap.size 5 i0 1 Yba.underlying33 hi0 hz1 wr.heap.size s.size (s.size + 1 + n) (strCells s) rfl (hown2.alloc _) ⟨w2.heap.size, 0, none⟩ 1 1 [.int .u8 35] rfl rfl (cell_one_new _ _ _) (ints_oneCell .u8 [35]) (by omega) ?_; intro w3 hown3 hg3; have hg13 := (hg12.trans (grownBy_none_any (World.grownBy_alloc w2 _ none) _)).trans hg3))
        clear hown1 hown2 hg1 hg2 hg3 hg12
        have hbel3 : Below w.heap.size w w3 := hbel.grown hg13 hsz (by intro k hk; cases hk; exact hsz)
        have hdc3 : ∀ j, j < xs.length → w3.cell? ⟨g, j, none⟩ = some (.int .u8 ((xs.getD j 0 : Nat) : Int)) := fun j hj => (World.cell?_of_block (a := ⟨g, j, none⟩) (hg13.block g hgl.2 (by simp; omega))).trans (HDC.out j hj)
        have HDC3 := hide hdc3
        have HOWN3 := hide hown3
        clear hdc3 hown3 HDC
        have hG : wr.heap.size < w3.heap.size := by
          have := HOWN3.out.lt wr.heap.size rfl
          omega
        have hgG : g < wr.heap.size := hgl.2
        generalize wr.heap.size = G at *
        clear hg13 hbel hgl
        go_loopg [6, 7] n (fun gk bv jv wr => ∃ j r : Nat, j + r = n ∧ r ≤ gk ∧ jv = .int .i64 ((r : Int) - 1) ∧ bv = .slice (some ⟨G, 0, none⟩) (s.size + 1 + j) (s.size + 1 + n) ∧ wr.ownsRow w.heap.size 5 1 (.slice (some ⟨G, 0, none⟩) (s.size + 1 + j) (s.size + 1 + n)) (s.size + 1 + j) (strCells s ++ [.int .u8 35] ++ dInts (xs.reverse.take j)) ∧ (∀ j, j < xs.length → wr.cell? ⟨g, j, none⟩ = some (.int .u8 ((xs.getD j 0 : Nat) : Int))) ∧ g < wr.heap.size ∧ Below w.heap.size w wr)
        case atStart => exact ⟨0, n, by omega, by omega, by go_num, rfl, by simpa [dInts] using HOWN3.out, HDC3.out, by omega, hbel3⟩
        case round =>
          clear HOWN3 HDC3 hbel3
          obtain ⟨j, r, hj, hgj, rfl, rfl, hown, hdc, hgw, hbel⟩ := hrel
          cases r with
          | succ q =>
            have hq : q < xs.length := by have := HN.out; omega
            have cj := hdc q hq
            obtain ⟨x, hx⟩ : ∃ x : Nat, x = xs.getD q 0 := ⟨_, rfl⟩
            rw [← hx] at cj
            have HX := hide hx
            have HDC := hide hdc
            have HOWN := hide hown
            have hbz := hbel.size
            clear hdc hown hx
            rw [show (((q + 1 : Nat) : Int) - 1) = (q : Int) by omega]
            have hqn : (q : Int) < (n : Int) := by omega
            go_wp2_with (at_builtin; refine wpList_append_fits _ rfl _ _ 33 rfl w.heap.size 5 i0 1 Yba.underlying33 hi0 hz1 G (s.size + 1 + j) (s.size + 1 + n) _ rfl (HOWN.out.alloc _) ⟨wr.heap.size, 0, none⟩ 1 1 [.int .u8 (x : Int)] rfl rfl (cell_one_new _ _ _) (ints_oneCell .u8 [_]) (by omega) ?_; intro w4 hown4 hg4)
            have hgG2 := (HOWN.out.lt G rfl).2
            have hg := (grownBy_none_any (World.grownBy_alloc wr (.cells #[.int .u8 (x : Int)] 5) none) (some G)).trans hg4
            go_roundg (gk - 1)
            case measure => omega
            case rel =>
              refine ⟨j + 1, q, by omega, by omega, by go_num, rfl, ?_, fun j hj => ?_, Nat.lt_of_lt_of_le hgw hg.size, hbel.grown hg hbz (by intro k hk; cases hk; exact (HOWN.out.lt G rfl).1)⟩
              · have hxl := HN.out
                have e : xs.reverse.take (j + 1) = xs.reverse.take j ++ [x] := by
                  rw [List.take_add_one, List.getElem?_reverse (by omega), HX.out, List.getD, show xs.length - 1 - j = q by omega, List.getElem?_eq_getElem hq]
                  rfl
                rw [e, show dInts (xs.reverse.take j ++ [x]) = dInts (xs.reverse.take j) ++ [Value.int .u8 (x : Int)] by simp [dInts], ← List.append_assoc]
                exact hown4
              · exact (World.cell?_of_block (a := ⟨g, j, none⟩) (hg.block g hgw (by simp; omega))).trans (HDC.out j hj)
          | zero =>
            have hjn : j = n := by omega
            subst hjn
            have hxl := HN.out
            have hns : strCells s ++ [Value.int .u8 35] ++ dInts (xs.reverse.take j) = (nameInts s i).map (Value.int .u8) := by
              rw [List.take_of_length_le (by simp; omega)]
              simp [nameInts, strCells, dInts, HXS.out, Function.comp_def]
            rw [hns] at hown
            have hconv : (convert 33 9 (.slice (some ⟨G, 0, none⟩) (s.size + 1 + j) (s.size + 1 + j))).run Yba.prog wr = .ok (.string (nameOf s i)) wr := by
              rw [run_convert_bytes_string wr 33 9 5 _ _ _ Yba.underlying33 Yba.underlying5 Yba.underlying9, run_bytesToString wr ⟨G, 0, none⟩ _ _ (nameInts s i), nameInts_push]
              have hl : ((nameInts s i).map (Value.int .u8)).length = s.size + 1 + j := by simpa using hown.1
              rw [← hl]
              exact run_loadCells_list wr ⟨G, 0, none⟩ _ (hown.cells (g := G) rfl)
            clear hdc hown hns hxl
            have hm1 : ¬ (0 : Int) ≤ ((0 : Nat) : Int) - 1 := by omega
            go_wp2_with fail
            go_ret
            exact ⟨rfl, hbel⟩
      · obtain ⟨f1, rfl⟩ : ∃ f1, f = f1 + 1 := by
          cases f with
          | zero => simp at hmf; omega
          | succ f1 => exact ⟨f1, rfl⟩
        have hmi : (0 : Int) < (m : Int) := by omega
        have hxs2 : (xs ++ [48 + m % 10]) ++ digs f1 (m / 10) = decs i := by
          rw [← hxs]
          conv => rhs; unfold digs
          simp [hm0]
        have HXS := hide hxs2
        have HOWN := hide hown
        have HN := hide hn
        have HMF := hide hmf
        clear hxs hxs2 hown hn hmf
        go_wp2_with (at_builtin; refine wpList_append_own_at _ rfl _ _ 33 rfl w.heap.size 5 i0 (.int .u8 0) 1 1 Yba.underlying33 hi0 hz0 hz1 hz2 rfl (by decide) (.slice a n c) n (dInts xs) rfl (HOWN.out.alloc _) ⟨wr.heap.size, 0, none⟩ 1 1 [.int .u8 (48 + (m : Int) % 10)] rfl rfl (cell_one_new _ _ _) (ints_oneCell .u8 [_]) (by unfold maxLen; omega) (by omega) (by have := hbel.size; simp; omega) ?_; intro v' w1 hown' hgrow hnil hloc)
        obtain ⟨a', c', rfl⟩ := Sl.of hown'
        go_roundg (gk - 1)
        case measure => omega
        case rel =>
          refine ⟨m / 10, f1, a', n + 1, c', xs ++ [48 + m % 10], by go_num, by omega, ?_, by omega, rfl, by have := HN.out; simp; omega, by omega, ?_, HXS.out, ?_⟩
          · have := HMF.out; rw [Nat.pow_succ] at this; omega
          · rw [show dInts (xs ++ [48 + m % 10]) = dInts xs ++ [Value.int .u8 (48 + (m : Int) % 10)] by simp [dInts]]; exact hown'
          · have hsz := hbel.size
            refine (hbel.alloc hsz _).grown hgrow (by simp; omega) ?_
            intro k hk
            exact (HOWN.out.lt k hk).1
end Go.Proofs.Ybulkdafm
