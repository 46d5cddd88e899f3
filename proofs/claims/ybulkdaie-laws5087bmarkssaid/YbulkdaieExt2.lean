/-
  The walk of extend, where words are made or held.
-/
import Derived.Test.YbulkdaieExt
namespace Go.Proofs.Ybulkdaie
open Go.RowKit
set_option linter.unusedVariables false

theorem wcells_falses (bs : List Bool) (m n : Nat) : wcells (bs ++ List.replicate m false) n = wcells bs n := by
  unfold wcells
  exact List.map_congr_left (fun i _ => by rw [wd_falses])
theorem wcells_snoc_true (bs : List Bool) (n : Nat) (h : bs.length < 64 * n) : wcells (bs ++ [true]) n = (wcells bs n).set (bs.length / 64) (.int .u64 ((wd bs (bs.length / 64) + 2 ^ (bs.length % 64) : Nat) : Int)) := by
  apply List.ext_getElem?
  intro i
  rw [List.getElem?_set]
  by_cases hi : i < n
  · rw [wcells_get _ _ _ hi, wd_snoc]
    by_cases he : bs.length / 64 = i
    · rw [if_pos he, if_pos he.symm, if_pos (by rw [wcells_length]; omega), ← he]
      simp
    · rw [if_neg he, if_neg (Ne.symm he), wcells_get _ _ _ hi]
  · rw [if_neg (by omega), List.getElem?_eq_none (by rw [wcells_length]; omega), List.getElem?_eq_none (by rw [wcells_length]; omega)]
theorem wcells_succ (bs : List Bool) (n : Nat) (h : bs.length ≤ 64 * n) : wcells bs (n + 1) = wcells bs n ++ [.int .u64 0] := by
  unfold wcells
  rw [List.range_succ, List.map_append]
  simp [wd_zero bs n h]
theorem wd_none (bs : List Bool) (i : Nat) (h : ∀ b ∈ bs, b = false) : wd bs i = 0 := by
  have : bs = List.replicate bs.length false := List.eq_replicate_iff.2 ⟨rfl, h⟩
  rw [this]
  have h2 := wd_falses bs.length [] i
  rw [List.nil_append] at h2
  rw [h2]
  simp [wd, wl]
theorem wcells_none (bs : List Bool) (n : Nat) (h : ∀ b ∈ bs, b = false) : wcells bs n = List.replicate n (.int .u64 0) := by
  apply List.ext_getElem?
  intro i
  by_cases hi : i < n
  · rw [wcells_get _ _ _ hi, wd_none bs i h]
    simp [hi]
  · rw [List.getElem?_eq_none (by rw [wcells_length]; omega), List.getElem?_eq_none (by simp; omega)]

theorem Yba.info30 : (Yba.prog.info? 30).map (fun i => (i.zero, i.size, i.bytes)) = some (some (.int .u64 0), 1, 8) := by kernel_rfl

/-- n zero words. -/
def zrow (n : Nat) : Array Value := (List.replicate n (Value.int .u64 0)).toArray
theorem make_zrow (n : Nat) (hn : n ≤ 4096) (C : Int) (hC : C = (n : Int)) (w : World) :
    (Instr.makeSlice 68 (.int .u64 C) (.int .u64 C)).run Yba.prog w = .ok (.slice (some ⟨w.heap.size, 0, none⟩) n n) (w.alloc (.cells (zrow n) 30)) := by
  obtain ⟨i, hi, hz0, hz1, hz2⟩ := info_parts Yba.info30
  subst hC
  have h := run_make (P := Yba.prog) w 68 30 i (.int .u64 0) Yba.underlying68 hi hz0 .u64 .u64 (n : Int) (n : Int) (by omega) (by omega) (by rw [hz2]; omega) (by omega)
  rw [h, hz1, Nat.mul_one, Int.toNat_natCast]
  have e1 : madeCells (Value.int .u64 0).cells n = zrow n := by
    apply Array.toList_inj.1
    rw [show (Value.int .u64 0).cells = #[Value.int .u64 0] from rfl, toList_madeCells_one]
    rfl
  rw [e1]

end Go.Proofs.Ybulkdaie
