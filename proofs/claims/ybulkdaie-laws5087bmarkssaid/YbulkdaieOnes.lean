import Derived.Test.YbulkdaieRows
import Derived.Test.YbulkdaiePop
import Derived.WalkKit
import Derived.WalkSpells
import Derived.WalkLawsBesides
import Derived.Laws.BitsAllLaws
namespace Go.Proofs.Ybulkdaie
open Go.RowKit

theorem wrapA (m x : Nat) (hm : 2 * m < 18446744073709551616) (hx : x < 18446744073709551616) :
    IntKind.u64.wrap (bits .and .u64 ((x : Int) / 2) (m : Int) + bits .and .u64 (x : Int) (m : Int)) = ((Pop.stA m x : Nat) : Int) := by
  rw [show ((x : Int) / 2) = ((x / 2 : Nat) : Int) by omega, u64_and_nat _ _ (by omega) (by omega), u64_and_nat _ _ hx (by omega), IntKind.wrap_u64]
  have h1 : (x / 2 &&& m) ≤ m := Nat.and_le_right
  have h2 : (x &&& m) ≤ m := Nat.and_le_right
  unfold Pop.stA
  omega
theorem wrapB (m x : Nat) (hm : 2 * m < 18446744073709551616) (hx : x < 18446744073709551616) :
    IntKind.u64.wrap (bits .and .u64 ((x : Int) / 4) (m : Int) + bits .and .u64 (x : Int) (m : Int)) = ((Pop.stB m x : Nat) : Int) := by
  rw [show ((x : Int) / 4) = ((x / 4 : Nat) : Int) by omega, u64_and_nat _ _ (by omega) (by omega), u64_and_nat _ _ hx (by omega), IntKind.wrap_u64]
  have h1 : (x / 4 &&& m) ≤ m := Nat.and_le_right
  have h2 : (x &&& m) ≤ m := Nat.and_le_right
  unfold Pop.stB
  omega
theorem wrapC (m x : Nat) (hm : m < 18446744073709551616) (hx : x < 9223372036854775808) :
    bits .and .u64 (IntKind.u64.wrap ((x : Int) / 16 + (x : Int))) (m : Int) = ((Pop.stC m x : Nat) : Int) := by
  rw [show IntKind.u64.wrap ((x : Int) / 16 + (x : Int)) = ((x / 16 + x : Nat) : Int) by rw [IntKind.wrap_u64]; omega, u64_and_nat _ _ (by omega) hm]
  rfl
theorem wrapU (d y : Nat) (hy : y < 4611686018427387904) : IntKind.u64.wrap ((y : Int) + (y : Int) / (d : Int)) = ((Pop.up d y : Nat) : Int) := by
  have h1 : y / d ≤ y := Nat.div_le_self _ _
  rw [show ((y : Int) / (d : Int)) = ((y / d : Nat) : Int) from rfl, IntKind.wrap_u64]
  unfold Pop.up
  generalize y / d = q at *
  omega
theorem up_le (d y B : Nat) (hd : 256 ≤ d) (hy : y ≤ B) : Pop.up d y ≤ B + B / 256 := by
  unfold Pop.up
  have h1 : y / d ≤ y / 256 := Nat.div_le_div_left hd (by omega)
  omega

set_option maxHeartbeats 400000 in
theorem ones_any (x : Nat) (hx : x < 18446744073709551616) (w : World) :
    Calls Yba.prog 23 #[.int .u64 (x : Int)] w fun e w' => e = .returned (.int .i64 (Pop.pc 64 x : Int)) ∧ w' = w := by
  go_enter Yba.func23, Yba.ntmps23
  go_wp2
  go_ret
  refine ⟨?_, rfl⟩
  have bA : Pop.stA 6148914691236517205 x ≤ 2 * 6148914691236517205 := by
    have h1 : (x / 2 &&& 6148914691236517205) ≤ 6148914691236517205 := Nat.and_le_right
    have h2 : (x &&& 6148914691236517205) ≤ 6148914691236517205 := Nat.and_le_right
    unfold Pop.stA; omega
  have hA := wrapA 6148914691236517205 x (by omega) hx
  have hB := wrapB 3689348814741910323 (Pop.stA 6148914691236517205 x) (by omega) (by omega)
  have bB : Pop.stB 3689348814741910323 (Pop.stA 6148914691236517205 x) ≤ 2 * 3689348814741910323 := by
    generalize Pop.stA 6148914691236517205 x = y
    have h1 : (y / 4 &&& 3689348814741910323) ≤ 3689348814741910323 := Nat.and_le_right
    have h2 : (y &&& 3689348814741910323) ≤ 3689348814741910323 := Nat.and_le_right
    unfold Pop.stB; omega
  have hC := wrapC 1085102592571150095 (Pop.stB 3689348814741910323 (Pop.stA 6148914691236517205 x)) (by omega) (by omega)
  have bC : Pop.stC 1085102592571150095 (Pop.stB 3689348814741910323 (Pop.stA 6148914691236517205 x)) ≤ 1085102592571150095 := Nat.and_le_right
  have hS := Pop.swar_eq x hx
  unfold Pop.swar at hS
  rw [show ((6148914691236517205 : Nat) : Int) = 6148914691236517205 from rfl] at hA
  rw [show ((3689348814741910323 : Nat) : Int) = 3689348814741910323 from rfl] at hB
  rw [show ((1085102592571150095 : Nat) : Int) = 1085102592571150095 from rfl] at hC
  rw [hA, hB, hC]
  generalize Pop.stC 1085102592571150095 (Pop.stB 3689348814741910323 (Pop.stA 6148914691236517205 x)) = y at *
  have b4 := up_le 256 y _ (by omega) bC
  have b5 := up_le 65536 _ _ (by omega) b4
  have b6 := up_le 4294967296 _ _ (by omega) b5
  have h4 := wrapU 256 y (by omega)
  have h5 := wrapU 65536 (Pop.up 256 y) (by omega)
  have h6 := wrapU 4294967296 (Pop.up 65536 (Pop.up 256 y)) (by omega)
  rw [show ((256 : Nat) : Int) = 256 from rfl] at h4
  rw [show ((65536 : Nat) : Int) = 65536 from rfl] at h5
  rw [show ((4294967296 : Nat) : Int) = 4294967296 from rfl] at h6
  rw [h4, h5, h6]
  show Ending.returned (.int .i64 (bits .and .i64 (wrap64 ((Pop.up 4294967296 (Pop.up 65536 (Pop.up 256 y)) : Nat) : Int)) 127)) = _
  rw [IntWalk.wrap64_in _ ⟨by omega, by omega⟩, i64_and127, ← hS]
  rfl

end Go.Proofs.Ybulkdaie
