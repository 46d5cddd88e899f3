/-
  The building of a new inflater: its many cells stay an unopened list.
-/
import Derived.Test.YbulkdagaDoorTake
import Derived.Great.Ranges
import Derived.Great.BuildSlice
import Derived.LaidEql
namespace Go.Proofs.YbulkdagaDoor
open Go.RowKit

/-- The places of a struct's fields. -/
def placesOf (P : Program) (t : TypeId) : Option (List (Nat × Nat)) :=
  match P.underlying t with
  | some (.struct fs) => fs.toList.mapM (fun f => (P.info? f.type).map fun i => (f.offset, i.size))
  | _ => none
theorem zero46 : ((Ybad.prog.info? 46).bind (·.zero)).map (fun z => z.cells.toList.take 5) = some [.nilIface, .slice none 0 0, .int .u64 0, .int .u64 0, .nilIface] := by kernel_rfl
theorem place46 : (placesOf Ybad.prog 46).map (fun l => l[0]?) = some (some (0, 1)) := by kernel_rfl

theorem built46 (v : Value) (hv : v.cells = #[v]) : ∃ Z, Ybad.prog.built 46 [(0, v)] = some (v :: .slice none 0 0 :: .int .u64 0 :: .int .u64 0 :: .nilIface :: Z).toArray := by
  have h1 := zero46
  have h2 := place46
  unfold placesOf at h2
  unfold Program.built
  cases hi : Ybad.prog.info? 46 with
  | none => simp [hi] at h1
  | some it =>
    cases hz : it.zero with
    | none => simp [hi, hz] at h1
    | some z =>
      simp only [hi, hz, Option.bind_some, Option.map_some, Option.some.injEq] at h1
      cases hu : Ybad.prog.underlying 46 with
      | none => simp [hu] at h2
      | some d =>
        cases d <;> try (simp [hu] at h2; done)
        case struct fs =>
          simp only [hu] at h2
          cases hp : fs.toList.mapM (fun f => (Ybad.prog.info? f.type).map fun i => (f.offset, i.size)) with
          | none => simp [hp] at h2
          | some places =>
            simp only [hp, Option.map_some, Option.some.injEq] at h2
            have hL : z.cells.toList = [.nilIface, .slice none 0 0, .int .u64 0, .int .u64 0, .nilIface] ++ z.cells.toList.drop 5 := by
              rw [← h1, List.take_append_drop]
            generalize z.cells.toList.drop 5 = Z at hL
            have hz' : z.cells = (([.nilIface, .slice none 0 0, .int .u64 0, .int .u64 0, .nilIface] : List Value) ++ Z).toArray := by
              apply Array.toList_inj.1; rw [hL]
            refine ⟨Z, ?_⟩
            simp only [hp, hz]
            simp [Instr.fill, h2, hv, hz']

/-- The zero inflater, as the walk meets it. -/
theorem zeroRun46 : ∃ ZA Z, (∀ wx, (zeroValue 46).run Ybad.prog wx = .ok (.agg ZA) wx) ∧ ¬ ZA = #[] ∧ ∀ v, ZA.setIfInBounds 0 v = (v :: .slice none 0 0 :: .int .u64 0 :: .int .u64 0 :: .nilIface :: Z).toArray := by
  have h1 := zero46
  cases hi : Ybad.prog.info? 46 with
  | none => simp [hi] at h1
  | some it =>
    cases hz : it.zero with
    | none => simp [hi, hz] at h1
    | some z =>
      simp only [hi, hz, Option.bind_some, Option.map_some, Option.some.injEq] at h1
      have hL : z.cells.toList = [.nilIface, .slice none 0 0, .int .u64 0, .int .u64 0, .nilIface] ++ z.cells.toList.drop 5 := by
        rw [← h1, List.take_append_drop]
      generalize z.cells.toList.drop 5 = Z at hL
      have hz' : z.cells = (([.nilIface, .slice none 0 0, .int .u64 0, .int .u64 0, .nilIface] : List Value) ++ Z).toArray := by
        apply Array.toList_inj.1; rw [hL]
      have hagg : z = .agg z.cells := by
        cases z <;> first | rfl | (simp [Value.cells] at h1)
      refine ⟨z.cells, Z, fun wx => ?_, ?_, fun v => ?_⟩
      · rw [← hagg]; simp [zeroValue, typeInfo, hi, hz]
      · rw [hz']; simp
      · rw [hz']; simp

end Go.Proofs.YbulkdagaDoor
