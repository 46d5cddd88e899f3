/-
  The law whole.
-/
import Derived.Test.YbulkdaieS39
import Derived.Test.YbulkdaieS40
import Derived.Test.YbulkdaieS41
namespace Go.Proofs.Ybulkdaie.Scr
open Go.RowKit Go.Maps
set_option linter.unusedVariables false
set_option linter.unusedSimpArgs false

set_option maxHeartbeats 8000000 in
set_option maxRecDepth 100000 in
theorem law_any (xn xo xe xc : Nat → Nat) (sa : Option Addr) (sl sc : Nat) (w : World) (hsl : sl ≤ 300) (hst : Steps w sa sl xn xo xe xc) :
    Calls Yba.prog 3 #[.slice sa sl sc] w fun e w' => e = .returned (.bool true) ∧ Below w.heap.size w w' := by
  obtain ⟨ltA, hltA⟩ := exA
  obtain ⟨ltO, hltO⟩ := exO
  obtain ⟨ltN, hltN⟩ := exN
  go_enter Yba.func3, Yba.ntmps3
  refine wp_seq ?_
  refine q0 ?_
  intro  v1 hv
  rw [hv]
  clear hv v1
  show Code.wp _ _ _ _ _
  refine wp_seq ?_
  refine q1 hsl ?_
  intro _ _ _ v1 hv
  rw [hv]
  clear hv v1
  show Code.wp _ _ _ _ _
  refine wp_seq ?_
  refine q3 ?_
  intro _ v1 hv1
  show Code.wp _ _ _ _ _
  refine wp_seq ?_
  refine q4 hsl ?_
  rintro _ _ _ v2 ⟨cs, hcs, hv2⟩
  show Code.wp _ _ _ _ _
  refine wp_seq ?_
  have hv1s : v1.heap.size = w.heap.size + 5 := by rw [hv1]; simp
  have hLS0 := LS.start w sl ltA ltO ltN xn xo xe xc (fun _ => 0) cs hcs
  rw [← hv1, ← hv2, ← hv1s] at hLS0
  refine q5 (w := w) hst ⟨_, _, _, _, _, _, _, _, _, _, _, hLS0⟩ rfl hltA hltO hltN hsl ?_
  rintro _ _ _ _ _ _ _ _ _ _ _ _ _ _ _ _ _ _ _ _ _ _ _ _ _ _ _ _ _ _ _ _ _ _ _ _ _ _ v3 ⟨A, wb, D1, D2, D3, D4, wl, rl, sw, su, C, hL⟩
  show Code.wp _ _ _ _ _
  refine q2 hL rfl hltA hltO hltN hsl ?_
  intro _ _ _ _ _ _ _ _ _ _ _ _ _ _ _ _ _ _ _ _ _ _ _ _ _ _ _ _ _ _ _ _ _ _ _ _ _ _ _ _ _ _ _ _ _ _ _ _ _ _ _ _ _ _ _ _ _ _ _ _ _ _ _ _ _ _ _ _ _ _ _ _ _ _ _ _ _ _ _ _ _ _ _ _ _ _ _ _ _ _ _ _ _ _ _ _ _ _ _ _ _ _ _ _ _ _ _ _ _ _ _ _ _ _ _ _ _ _ _ _ _ _ _ _ _ _ _ _ _ _ _ _ _ _ _ _ _ _ _ _ _ _ _ _ _ _ _ _ _ _ _ _ _ _ _ _ _ _ _ _ _ _ _ _ _ _ _ _ _ _ _ _ _ _ _ _ _ _ _ _ _ _ _ _ _ _ _ _ _ _ _ _ _ _ _ _ _ _ _ _ _ _ _ _ _ _ _ _ _ _ _ _ _ _ _ _ _ _ _ _ _ _ _ _ _ _ _ _ _ _ _ _ _ _ _ _ _ _ _ _ _ _ _ _ _ _ _ _ _ _ _ _ _ _ _ _ _ _ _ _ _ _ _ _ _ _ _ _ _ _ _ _ _ _ _ _ _ _ _ _ _ _ _ _ _ _ _ _ _ _ _ _ _ _ _ _ _ _ _ _ _ _ _ _ _ _ _ _ _ _ _ _ _ _ _ v4 hb4
  go_ret
  exact ⟨rfl, kstep hL.below hb4 hL.below.size⟩
end Go.Proofs.Ybulkdaie.Scr
