/-
  The inner loop.
-/
import Derived.Test.YbulkdaieS36
import Derived.Deep.CutBlock
namespace Go.Proofs.Ybulkdaie.Scr
open Go.RowKit Go.Maps
set_option linter.unusedVariables false
set_option linter.unusedSimpArgs false

theorem cntPre_zero (κ : Nat → Nat) (p : Nat) : cntPre κ p 0 = 0 := by unfold cntPre; rw [Nat.zero_min]; rfl
theorem newB_zero (κ : Nat → Nat) (p : Nat) : newB κ p 0 = true := by unfold newB; rw [Nat.zero_min]; rfl
theorem cntPre_if (κ : Nat → Nat) (p j : Nat) {c : Prop} [Decidable c] (h : c ↔ κ j = κ p) : cntPre κ p (j + 1) = cntPre κ p j + (if c ∧ j < p then 1 else 0) := by
  by_cases hj : j < p
  · rw [cntPre_step_lt hj]
    by_cases hc : c
    · rw [if_pos (h.1 hc), if_pos ⟨hc, hj⟩]
    · rw [if_neg (fun e => hc (h.2 e)), if_neg (fun e => hc e.1)]
  · rw [cntPre_step_ge (by omega), if_neg (fun e => hj e.2)]
    rfl
theorem cntAll_if (κ : Nat → Nat) (p j : Nat) {c : Prop} [Decidable c] (h : c ↔ κ j = κ p) : cntAll κ p (j + 1) = cntAll κ p j + (if c then 1 else 0) := by
  rw [cntAll_step]
  by_cases hc : c
  · rw [if_pos (h.1 hc), if_pos hc]
  · rw [if_neg (fun e => hc (h.2 e)), if_neg hc]
theorem newB_if (κ : Nat → Nat) (p j : Nat) {c : Prop} [Decidable c] (h : c ↔ κ j = κ p) : newB κ p (j + 1) = (newB κ p j && !decide (c ∧ j < p)) := by
  by_cases hj : j < p
  · rw [newB_step_lt hj]
    by_cases hc : c
    · rw [decide_eq_true (⟨hc, hj⟩ : c ∧ j < p), h.1 hc]; simp
    · rw [decide_eq_false (fun e : c ∧ j < p => hc e.1)]
      have : (κ j == κ p) = false := by simpa using fun e => hc (h.2 e)
      rw [this]
  · rw [newB_step_ge (by omega), decide_eq_false (fun e : c ∧ j < p => hj e.2)]
    simp


set_option maxHeartbeats 8000000 in
set_option maxRecDepth 100000 in
theorem qin {w w0 : World} {A : Tags} {ge n : Nat} {ltA ltO ltN : Nat → Lit} {xn xo xe xc wb : Nat → Nat} {D1 D2 D3 D4 : DataW Unit} {wl rl : Nat → Value} {sw su : Nat → SD} {C : List Value} (hLS : LS w w0 A ge n ltA ltO ltN xn xo xe xc wb n D1 D2 D3 D4 wl rl sw su C) {p : Nat} (hp : p < n) (hn : n ≤ 300)
    {c0 c1 c2 c3 c5 c6 c7 c8 c9 c12 c13 c22 c23 c24 c25 c26 c27 c28 c29 c30 c31 c32 c33 c34 c35 c36 c37 c38 c39 c40 c41 c42 c43 c44 c45 c46 c47 c48 c49 c50 c51 c52 c53 c54 c55 c56 c57 c58 c59 c60 c61 c62 c63 c64 c65 c66 c67 c68 c69 c70 c71 c72 c73 c74 c75 c76 c77 c78 c79 c80 c81 c82 c83 c84 c85 c86 c87 c88 c89 c90 c91 c92 c93 c94 c95 c96 c97 c98 c99 c100 c101 c102 c103 c104 c105 c106 c107 c108 c109 c110 c111 c112 c113 c114 c115 c116 c117 c118 c119 c120 c121 c122 c123 c124 c125 c126 c127 c128 c129 c130 c131 c132 c133 c134 c135 c136 c137 c138 c139 c140 c141 c142 c143 c144 c145 c146 c147 c148 c149 c150 c151 c152 c153 c154 c155 c156 c157 c158 c159 c160 c161 c162 c163 c164 c165 c166 c167 c168 c169 c170 c171 c172 c173 c174 c175 c176 c177 c178 c179 c180 c181 c182 c183 c184 c185 c186 c187 c188 c189 c190 c191 c192 c193 c194 c195 c196 c197 c198 c199 c200 c201 c202 c203 c204 c205 c206 c207 c208 c209 c210 c211 c212 c213 c214 c215 c216 c217 c218 c219 c220 c221 c222 c223 c224 c225 c226 c227 c228 c229 c230 c231 c232 c233 c234 c235 c236 c237 c238 c239 c240 c241 c242 c243 c244 c245 c246 c247 c248 c249 c250 c251 c252 c253 c254 c255 c256 c257 c258 c259 c260 c261 c262 c263 c264 c265 c266 c267 c268 c269 c270 c271 c272 c273 c274 c275 c276 c277 c278 c279 c280 c281 c282 c283 c284 c285 c286 c287 c288 c289 c290 c291 c292 c293 c294 c295 c296 c297 c298 c299 c300 c301 c302 c303 c304 c305 c306 c307 c308 c309 c310 c311 c312 c313 c314 c315 c316 c317 c318 c319 c320 c321 c322 c323 c324 c325 c326 c327 c328 c329 c330 c331 c332 c333 c334 c335 c336 c337 c338 c339 c340 c341 c342 c343 c344 c345 c346 c347 c348 c349 c350 c351 c352 c353 c354 c355 c356 c357 c358 c359 c360 c361 c362 c363 c364 : Value} {Q : Exit → Act → World → Prop}
    (hQ : ∀ (u21 u22 u98 u99 u100 u101 u102 u103 u104 u105 u106 u107 u108 u109 u110 u111 u112 u113 u114 u115 u116 u117 u118 u119 u120 u121 u122 u123 u124 u125 u126 u127 u128 u129 u130 u131 u132 u133 u134 u135 u136 u137 u138 u139 u140 u141 u142 u143 u144 u145 u146 u147 u148 u149 u150 u151 u152 u153 u154 u155 u156 u157 u158 u159 u160 u161 u162 u163 u164 u165 u166 u167 u168 u169 u170 u171 u172 u173 u174 : Value) (w1 : World), Below w0.heap.size w0 w1 → Q .normal ⟨#[c0, c1, c2, c3, .slice (some ⟨ge, 0, none⟩) n n, c5, c6, c7, c8, c9, .int .i64 ((p : Nat) : Int), .pointer (some ⟨ge, p * 36, none⟩), c12, c13, .int .i64 ((cntPre (κA xn xe xc) p n : Nat) : Int), .int .i64 ((cntAll (κA xn xe xc) p n : Nat) : Int), .int .i64 ((cntPre (κO xn xo) p n : Nat) : Int), .int .i64 ((cntAll (κO xn xo) p n : Nat) : Int), (.bool (newB (κA xn xe xc) p n)), (.bool (newB (κO xn xo) p n)), (.bool (newB (κN xn) p n)), u21, u22, c23, c24, c25, c26, c27, c28, c29, c30, c31, c32, c33, c34, c35, c36, c37, c38, c39, c40, c41, c42, c43, c44, c45, c46, c47, c48, c49, c50, c51, c52, c53, c54, c55, c56, c57, c58, c59, c60, c61, c62, c63, c64, c65, c66, c67, c68, c69, c70, c71, c72, c73, c74, c75, c76, c77, c78, c79, c80, c81, c82, c83, c84, c85, c86, c87, c88, c89, c90, c91, c92, c93, c94, c95, c96, c97, u98, u99, u100, u101, u102, u103, u104, u105, u106, u107, u108, u109, u110, u111, u112, u113, u114, u115, u116, u117, u118, u119, u120, u121, u122, u123, u124, u125, u126, u127, u128, u129, u130, u131, u132, u133, u134, u135, u136, u137, u138, u139, u140, u141, u142, u143, u144, u145, u146, u147, u148, u149, u150, u151, u152, u153, u154, u155, u156, u157, u158, u159, u160, u161, u162, u163, u164, u165, u166, u167, u168, u169, u170, u171, u172, u173, u174, c175, c176, c177, c178, c179, c180, c181, c182, c183, c184, c185, c186, c187, c188, c189, c190, c191, c192, c193, c194, c195, c196, c197, c198, c199, c200, c201, c202, c203, c204, c205, c206, c207, c208, c209, c210, c211, c212, c213, c214, c215, c216, c217, c218, c219, c220, c221, c222, c223, c224, c225, c226, c227, c228, c229, c230, c231, c232, c233, c234, c235, c236, c237, c238, c239, c240, c241, c242, c243, c244, c245, c246, c247, c248, c249, c250, c251, c252, c253, c254, c255, c256, c257, c258, c259, c260, c261, c262, c263, c264, c265, c266, c267, c268, c269, c270, c271, c272, c273, c274, c275, c276, c277, c278, c279, c280, c281, c282, c283, c284, c285, c286, c287, c288, c289, c290, c291, c292, c293, c294, c295, c296, c297, c298, c299, c300, c301, c302, c303, c304, c305, c306, c307, c308, c309, c310, c311, c312, c313, c314, c315, c316, c317, c318, c319, c320, c321, c322, c323, c324, c325, c326, c327, c328, c329, c330, c331, c332, c333, c334, c335, c336, c337, c338, c339, c340, c341, c342, c343, c344, c345, c346, c347, c348, c349, c350, c351, c352, c353, c354, c355, c356, c357, c358, c359, c360, c361, c362, c363, c364], []⟩ w1) :
    Code.wp Yba.prog (nav [1, 1, 1, 1, 1, 1, 0, 1, 1, 1, 1, 0, 1, 1, 1, 1, 1, 1, 0, 1] (Yba.f3.body.getD .skip)) Q ⟨#[c0, c1, c2, c3, .slice (some ⟨ge, 0, none⟩) n n, c5, c6, c7, c8, c9, .int .i64 ((p : Nat) : Int), .pointer (some ⟨ge, p * 36, none⟩), c12, c13, .int .i64 0, .int .i64 0, .int .i64 0, .int .i64 0, .bool true, .bool true, .bool true, .int .i64 0, c22, c23, c24, c25, c26, c27, c28, c29, c30, c31, c32, c33, c34, c35, c36, c37, c38, c39, c40, c41, c42, c43, c44, c45, c46, c47, c48, c49, c50, c51, c52, c53, c54, c55, c56, c57, c58, c59, c60, c61, c62, c63, c64, c65, c66, c67, c68, c69, c70, c71, c72, c73, c74, c75, c76, c77, c78, c79, c80, c81, c82, c83, c84, c85, c86, c87, c88, c89, c90, c91, c92, c93, c94, c95, c96, c97, c98, c99, c100, c101, c102, c103, c104, c105, c106, c107, c108, c109, c110, c111, c112, c113, c114, c115, c116, c117, c118, c119, c120, c121, c122, c123, c124, c125, c126, c127, c128, c129, c130, c131, c132, c133, c134, c135, c136, c137, c138, c139, c140, c141, c142, c143, c144, c145, c146, c147, c148, c149, c150, c151, c152, c153, c154, c155, c156, c157, c158, c159, c160, c161, c162, c163, c164, c165, c166, c167, c168, c169, c170, c171, c172, c173, c174, c175, c176, c177, c178, c179, c180, c181, c182, c183, c184, c185, c186, c187, c188, c189, c190, c191, c192, c193, c194, c195, c196, c197, c198, c199, c200, c201, c202, c203, c204, c205, c206, c207, c208, c209, c210, c211, c212, c213, c214, c215, c216, c217, c218, c219, c220, c221, c222, c223, c224, c225, c226, c227, c228, c229, c230, c231, c232, c233, c234, c235, c236, c237, c238, c239, c240, c241, c242, c243, c244, c245, c246, c247, c248, c249, c250, c251, c252, c253, c254, c255, c256, c257, c258, c259, c260, c261, c262, c263, c264, c265, c266, c267, c268, c269, c270, c271, c272, c273, c274, c275, c276, c277, c278, c279, c280, c281, c282, c283, c284, c285, c286, c287, c288, c289, c290, c291, c292, c293, c294, c295, c296, c297, c298, c299, c300, c301, c302, c303, c304, c305, c306, c307, c308, c309, c310, c311, c312, c313, c314, c315, c316, c317, c318, c319, c320, c321, c322, c323, c324, c325, c326, c327, c328, c329, c330, c331, c332, c333, c334, c335, c336, c337, c338, c339, c340, c341, c342, c343, c344, c345, c346, c347, c348, c349, c350, c351, c352, c353, c354, c355, c356, c357, c358, c359, c360, c361, c362, c363, c364], []⟩ w0 := by
  have HQ := hide hQ
  clear hQ
  have HL := hide hLS
  clear hLS
  conv => arg 2; whnf
  go_wp2_with fail
  go_loopg [14, 15, 16, 17, 18, 19, 20, 21] n (fun gk v14 v15 v16 v17 v18 v19 v20 v21 wr => ∃ j : Nat, j ≤ n ∧ n ≤ gk + j ∧ v14 = .int .i64 ((cntPre (κA xn xe xc) p j : Nat) : Int) ∧ v15 = .int .i64 ((cntAll (κA xn xe xc) p j : Nat) : Int) ∧ v16 = .int .i64 ((cntPre (κO xn xo) p j : Nat) : Int) ∧ v17 = .int .i64 ((cntAll (κO xn xo) p j : Nat) : Int) ∧ v18 = .bool (newB (κA xn xe xc) p j) ∧ v19 = .bool (newB (κO xn xo) p j) ∧ v20 = .bool (newB (κN xn) p j) ∧ v21 = .int .i64 ((j : Nat) : Int) ∧ Below w0.heap.size w0 wr)
  case atStart =>
    refine ⟨0, by omega, by omega, ?_, rfl, ?_, rfl, ?_, ?_, ?_, rfl, Below.refl _ _⟩
    · rw [cntPre_zero]; rfl
    · rw [cntPre_zero]; rfl
    · rw [newB_zero]
    · rw [newB_zero]
    · rw [newB_zero]
  case round =>
    obtain ⟨j, hj, hgk, rfl, rfl, rfl, rfl, rfl, rfl, rfl, rfl, hb⟩ := hrel
    have HB := hide hb
    have HL1 := hide (HL.out.bel hb)
    clear hb
    by_cases hlt : j < n
    · have hji : (j : Int) < (n : Int) := by omega
      go_upto_block 5 with fail
      refine qB5 (Nat.le_trans (pre_le _ _ _) (by omega)) (Nat.le_trans (cnt_le _ _ _) (by omega)) (Nat.le_trans (pre_le _ _ _) (by omega)) (Nat.le_trans (cnt_le _ _ _) (by omega)) hlt (HL1.out.ev p hp) (HL1.out.ev j hlt) ?_
      rw [← cntPre_if (κA xn xe xc) p j (κA_iff xn xe xc p j).symm, ← cntAll_if (κA xn xe xc) p j (κA_iff xn xe xc p j).symm, ← newB_if (κA xn xe xc) p j (κA_iff xn xe xc p j).symm, ← cntPre_if (κO xn xo) p j (κO_iff xn xo p j).symm, ← cntAll_if (κO xn xo) p j (κO_iff xn xo p j).symm, ← newB_if (κO xn xo) p j (κO_iff xn xo p j).symm, ← newB_if (κN xn) p j (κN_iff xn p j).symm]
      intro _ _ _ _ _ _ _ _ _ _ _ _ _ _ _ _ _ _ _ _ _ _ _ _ _ _ _ _ _ _ _ _ _ _ _ _ _ _ _ _ _ _ _ _ _ _ _ _ _ _ _ _ _ _ _ _ _ _ _ _ _ _ _ _ _ _ _ _ _ _ _ _ w1 hb1
      have HB1 := hide hb1
      clear hb1
      have hL : IntKind.i64.wrap ((j : Int) + 1) = ((j + 1 : Nat) : Int) := by rw [IntKind.wrap_i64]; omega
      go_wp2_with fail
      go_roundg (gk - 1)
      case measure => omega
      case rel => exact ⟨j + 1, by omega, by omega, rfl, rfl, rfl, rfl, rfl, rfl, rfl, by simp, kstep HB.out HB1.out HB.out.size⟩
    · obtain rfl : j = n := by omega
      have hnl : ¬ (j : Int) < (j : Int) := by omega
      go_wp2_with fail
      apply HQ.out
      exact HB.out

end Go.Proofs.Ybulkdaie.Scr
