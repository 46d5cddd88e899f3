/-
  The checker's maps: readers, keys, the entry that is appended to.
-/
import Derived.Test.YbulkdaieS19
import Derived.WideKeyEntry
import Derived.Maps.OwnSet
import Derived.DeepKeys4
namespace Go.Proofs.Ybulkdaie.Scr
open Go.RowKit Go.Maps Go.ChangeShapes Go.WideShapes Go.MapKept Go.ChangeMaps
set_option linter.unusedVariables false
set_option linter.unusedSimpArgs false

theorem key_uniq {l : List MapEntry} (h : l.Pairwise (fun x y => x.key ≠ y.key)) {x y : MapEntry} (hx : x ∈ l) (hy : y ∈ l) (e : x.key = y.key) : x = y := by
  induction l with
  | nil => simp at hx
  | cons a r ih =>
    have hp := List.pairwise_cons.1 h
    rcases List.mem_cons.1 hx with h1 | h1
    · rcases List.mem_cons.1 hy with h2 | h2
      · rw [h1, h2]
      · rw [h1] at e
        exact absurd e (hp.1 y h2)
    · rcases List.mem_cons.1 hy with h2 | h2
      · rw [h2] at e
        exact absurd e.symm (hp.1 x h1)
      · exact ih hp.2 h1 h2

/-- 'm[k] = append(m[k], ..)': the entry is looked up (and laid, where there is none), then stored. -/
theorem map_entry {P : Program} {w : World} {t k e : TypeId} {R : Value → Option (DataW Unit × List MemPlace)} {b n : Nat} {D : DataW Unit} (h : w.ownsMap P k R b n D) (L : WideMaps.KeyLaw P k) (ht : P.underlying t = some (.map k e)) (hn : n < maxLen)
    {z : Value} (hz : ∀ u : World, (zeroValue e).run P u = .ok z u) {zd : DataW Unit} {zp : List MemPlace} (hzd : R z = some (zd, zp)) {key : Value} {kl : Lit} (hkey : keyOf P k key = some kl) :
    ∃ v0 st w1, (Instr.mapEntry t (.map (some b)) key).run P w = .ok (.tuple #[v0, goInt st]) w1 ∧ (∃ ps, R v0 = some (D.atKey kl zd, ps)) ∧ w.grownBy w1 (some b) ∧ w1.heap.size = w.heap.size ∧
      ∀ w2 val d ps, w2.heap[b]? = w1.heap[b]? → R val = some (d, ps) → ∃ w3, (Instr.entryStore t (.map (some b)) (goInt st) val).run P w2 = .ok () w3 ∧ w3.ownsMap P k R b (n + 1) (D.put kl d) ∧ w2.grownBy w3 (some b) := by
  have K := Keyed.of_law L
  obtain ⟨es, clock, hb, F, hs, rfl⟩ := h
  obtain ⟨v0, st, es1, clock1, hrun, hv0, hst⟩ := WideElems.entry_then_store L ht hz hb F hkey
  have hlook := fit_look (w := w) false K ht (hz w) hb F hkey
  have hnk : es.toList.Pairwise (fun x y => x.key ≠ y.key) := ((stamped_iff es clock).1 F.stamped).2.2
  refine ⟨v0, st, _, hrun, ?_, ⟨rfl, rfl, rfl, by simp [setBlock], fun i _ hi => heap_setBlock_other hb _ (fun e => hi (by rw [e]))⟩, by simp [setBlock], ?_⟩
  · rcases hlook with ⟨_, h2, hat⟩ | ⟨e0, y, hmem, hke, _, hRv, hat, _⟩
    · rcases hv0 with ⟨e1, he1, hk1, _⟩ | ⟨_, rfl⟩
      · exact absurd hk1 (h2 e1 he1)
      · exact ⟨zp, by rw [hat]; exact hzd⟩
    · rcases hv0 with ⟨e1, he1, hk1, rfl⟩ | ⟨h2, _⟩
      · have : e1 = e0 := key_uniq hnk he1 hmem (hk1.trans hke.symm)
        subst this
        exact ⟨y.2, by rw [hat]; exact hRv⟩
      · exact absurd hke (h2 e0 hmem)
  · intro w2 val d ps hw2 hval
    have hb1 : w2.heap[b]? = some (.map es1 clock1) := by rw [hw2]; exact heap_setBlock_same hb _
    obtain ⟨es', clock', hr1, hr2⟩ := hst w2 val hb1
    obtain ⟨w', hu, ho, hg⟩ := World.ownsMap.update (w := w) ⟨es, clock, hb, F, hs, rfl⟩ K ht hn hkey hval
    rw [hr2] at hu
    cases hu
    refine ⟨_, hr1, ?_, ⟨rfl, rfl, rfl, by simp [setBlock], fun i _ hi => heap_setBlock_other hb1 _ (fun e => hi (by rw [e]))⟩⟩
    obtain ⟨es2, clock2, h1, h2⟩ := ho
    refine ⟨es2, clock2, ?_, h2⟩
    rw [heap_setBlock_same hb1]
    rw [heap_setBlock_same hb] at h1
    exact h1

/-- How a slice of pointers reads; how a pointer to a set reads: by their numbers. -/
def numD (n : Nat) : DataW Unit := .lit (.int .i64 (n : Int))
def slD : Value → DataW Unit
  | .slice (some a) n c => .agg [numD a.block, numD n, numD c]
  | _ => .nil
def slElem : Value → Option (DataW Unit × List MemPlace)
  | .slice none 0 0 => some (.nil, [])
  | .slice (some ⟨g, 0, none⟩) n c => some (.agg [numD g, numD n, numD c], [])
  | _ => none
def ptD : Option Nat → DataW Unit
  | none => .nil
  | some b => numD b
def ptElem : Value → Option (DataW Unit × List MemPlace)
  | .pointer none => some (.nil, [])
  | .pointer (some ⟨b, 0, none⟩) => some (numD b, [])
  | _ => none
theorem numD_inj {a b : Nat} (h : numD a = numD b) : a = b := by simp [numD] at h; omega

theorem law9 : WideMaps.KeyLaw Yba.prog 9 := WideMaps.string_law Yba.underlying9
theorem laidOut : laidOutB Yba.prog = true := by kernel_rfl
theorem row46 : (46 : TypeId) < Yba.prog.types.size := of_decide_eq_true (by kernel_rfl)
theorem row48 : (48 : TypeId) < Yba.prog.types.size := of_decide_eq_true (by kernel_rfl)
theorem wide46 : (match Yba.prog.underlying 46 with | some (.array _ _) | some (.struct _) => true | _ => false) = true := by kernel_rfl
theorem wide48 : (match Yba.prog.underlying 48 with | some (.array _ _) | some (.struct _) => true | _ => false) = true := by kernel_rfl
set_option maxRecDepth 100000 in
theorem law46 : WideMaps.KeyLaw Yba.prog 46 := deep_law_laid laidOut (m := 3) (by omega) row46 (by kernel_rfl) wide46
set_option maxRecDepth 100000 in
theorem law48 : WideMaps.KeyLaw Yba.prog 48 := deep_law_laid laidOut (m := 3) (by omega) row48 (by kernel_rfl) wide48
theorem zero49 (u : World) : (zeroValue 49).run Yba.prog u = .ok (.slice none 0 0) u := by kernel_rfl
theorem zero61 (u : World) : (zeroValue 61).run Yba.prog u = .ok (.pointer none) u := by kernel_rfl
end Go.Proofs.Ybulkdaie.Scr
