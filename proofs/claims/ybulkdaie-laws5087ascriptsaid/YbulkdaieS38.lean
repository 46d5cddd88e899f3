/-
  The second loop: one round.
-/
import Derived.Test.YbulkdaieS31
import Derived.Test.YbulkdaieS32
import Derived.Test.YbulkdaieS33
import Derived.Test.YbulkdaieS35
import Derived.Test.YbulkdaieS37
namespace Go.Proofs.Ybulkdaie.Scr
open Go.RowKit Go.Maps
set_option linter.unusedVariables false
set_option linter.unusedSimpArgs false

set_option maxHeartbeats 8000000 in
set_option maxRecDepth 100000 in
theorem qB3 {w w0 : World} {A : Tags} {ge n : Nat} {ltA ltO ltN : Nat → Lit} {xn xo xe xc wb : Nat → Nat} {D1 D2 D3 D4 : DataW Unit} {wl rl : Nat → Value} {sw su : Nat → SD} {C : List Value} (hLS : LS w w0 A ge n ltA ltO ltN xn xo xe xc wb n D1 D2 D3 D4 wl rl sw su C) {p : Nat} (hp : p < n) {cB : Nat} (hcB : cB = w.heap.size + 4) (hA : ∀ k, k < 54 → keyOf Yba.prog 46 (keyA k) = some (ltA k)) (hO : ∀ k, k < 9 → keyOf Yba.prog 48 (keyO k) = some (ltO k)) (hN : ∀ k, k < 3 → keyOf Yba.prog 9 (keyN k) = some (ltN k)) (hn : n ≤ 300) {d7 d8 d9 : Nat} (hd7 : d7 ≤ 300) (hd8 : d8 ≤ 300) (hd9 : d9 ≤ 300)
    {c0 c1 c2 c5 c6 c11 c12 c13 c14 c15 c16 c17 c18 c19 c20 c21 c22 c23 c24 c25 c26 c27 c28 c29 c30 c31 c32 c33 c34 c35 c36 c37 c38 c39 c40 c41 c42 c43 c44 c45 c46 c47 c48 c49 c50 c51 c52 c53 c54 c55 c56 c57 c58 c59 c60 c61 c62 c63 c64 c65 c66 c67 c68 c69 c70 c71 c72 c73 c74 c75 c76 c77 c78 c79 c80 c81 c82 c83 c84 c85 c86 c87 c88 c89 c90 c91 c92 c93 c94 c95 c96 c97 c98 c99 c100 c101 c102 c103 c104 c105 c106 c107 c108 c109 c110 c111 c112 c113 c114 c115 c116 c117 c118 c119 c120 c121 c122 c123 c124 c125 c126 c127 c128 c129 c130 c131 c132 c133 c134 c135 c136 c137 c138 c139 c140 c141 c142 c143 c144 c145 c146 c147 c148 c149 c150 c151 c152 c153 c154 c155 c156 c157 c158 c159 c160 c161 c162 c163 c164 c165 c166 c167 c168 c169 c170 c171 c172 c173 c174 c175 c176 c177 c178 c179 c180 c181 c182 c183 c184 c185 c186 c187 c188 c189 c190 c191 c192 c193 c194 c195 c196 c197 c198 c199 c200 c201 c202 c203 c204 c205 c206 c207 c208 c209 c210 c211 c212 c213 c214 c215 c216 c217 c218 c219 c220 c221 c222 c223 c224 c225 c226 c227 c228 c229 c230 c231 c232 c233 c234 c235 c236 c237 c238 c239 c240 c241 c242 c243 c244 c245 c246 c247 c248 c249 c250 c251 c252 c253 c254 c255 c256 c257 c258 c259 c260 c261 c262 c263 c264 c265 c266 c267 c268 c269 c270 c271 c272 c273 c274 c275 c276 c277 c278 c279 c280 c281 c282 c283 c284 c285 c286 c287 c288 c289 c290 c291 c292 c293 c294 c295 c296 c297 c298 c299 c300 c301 c302 c303 c304 c305 c306 c307 c308 c309 c310 c311 c312 c313 c314 c315 c316 c317 c318 c319 c320 c321 c322 c323 c324 c325 c326 c327 c328 c329 c330 c331 c332 c333 c334 c335 c336 c337 c338 c339 c340 c341 c342 c343 c344 c345 c346 c347 c348 c349 c350 c351 c352 c353 c354 c355 c356 c357 c358 c359 c360 c361 c362 c363 c364 : Value} {Q : Exit → Act → World → Prop}
    (hQ : ∀ (u11 u12 u13 u14 u15 u16 u17 u18 u19 u20 u21 u22 u23 u24 u25 u26 u27 u77 u78 u79 u80 u81 u82 u83 u84 u85 u86 u87 u88 u89 u90 u91 u92 u93 u94 u95 u96 u97 u98 u99 u100 u101 u102 u103 u104 u105 u106 u107 u108 u109 u110 u111 u112 u113 u114 u115 u116 u117 u118 u119 u120 u121 u122 u123 u124 u125 u126 u127 u128 u129 u130 u131 u132 u133 u134 u135 u136 u137 u138 u139 u140 u141 u142 u143 u144 u145 u146 u147 u148 u149 u150 u151 u152 u153 u154 u155 u156 u157 u158 u159 u160 u161 u162 u163 u164 u165 u166 u167 u168 u169 u170 u171 u172 u173 u174 u175 u176 u177 u178 u179 u180 u181 u182 u183 u184 u185 u186 u187 u188 u189 u190 u191 u192 u193 u194 u195 u196 u197 u198 u199 u200 u201 u202 u203 u204 u205 u206 u207 u208 u209 u210 u211 u212 u213 u214 u215 u216 u217 u218 u219 u220 u221 u222 u223 u224 u225 u226 u227 u228 u229 u230 u231 u232 u233 u234 u235 u236 u237 u238 u239 u240 u241 u242 u243 u244 u245 u246 u247 u248 u249 u250 u251 u252 u253 u254 u255 u256 u257 u258 u259 u260 u261 u262 u263 u264 u265 u266 u267 u268 u269 u270 u271 u272 u273 u274 u275 u276 u277 u278 u279 u280 u281 u282 u283 u284 u285 u286 u287 u288 u289 u290 u291 u292 u293 u294 u295 u296 u297 u298 u299 u300 u301 u302 u303 u304 u305 u306 u307 u308 u309 u310 u311 u312 u313 u314 u315 u316 u317 u318 u319 u320 u321 u322 u323 u324 u325 u326 : Value) (w1 : World), Below w0.heap.size w0 w1 → Q .normal ⟨#[c0, c1, c2, .pointer (some ⟨cB, 0, none⟩), .slice (some ⟨ge, 0, none⟩) n n, c5, c6, .int .i64 ((d7 + (if newB (κA xn xe xc) p n = true then 1 else 0) : Nat) : Int), .int .i64 ((d8 + (if newB (κO xn xo) p n = true then 1 else 0) : Nat) : Int), .int .i64 ((d9 + (if newB (κN xn) p n = true then 1 else 0) : Nat) : Int), .int .i64 ((p : Nat) : Int), u11, u12, u13, u14, u15, u16, u17, u18, u19, u20, u21, u22, u23, u24, u25, u26, u27, c28, c29, c30, c31, c32, c33, c34, c35, c36, c37, c38, c39, c40, c41, c42, c43, c44, c45, c46, c47, c48, c49, c50, c51, c52, c53, c54, c55, c56, c57, c58, c59, c60, c61, c62, c63, c64, c65, c66, c67, c68, c69, c70, c71, c72, c73, c74, c75, c76, u77, u78, u79, u80, u81, u82, u83, u84, u85, u86, u87, u88, u89, u90, u91, u92, u93, u94, u95, u96, u97, u98, u99, u100, u101, u102, u103, u104, u105, u106, u107, u108, u109, u110, u111, u112, u113, u114, u115, u116, u117, u118, u119, u120, u121, u122, u123, u124, u125, u126, u127, u128, u129, u130, u131, u132, u133, u134, u135, u136, u137, u138, u139, u140, u141, u142, u143, u144, u145, u146, u147, u148, u149, u150, u151, u152, u153, u154, u155, u156, u157, u158, u159, u160, u161, u162, u163, u164, u165, u166, u167, u168, u169, u170, u171, u172, u173, u174, u175, u176, u177, u178, u179, u180, u181, u182, u183, u184, u185, u186, u187, u188, u189, u190, u191, u192, u193, u194, u195, u196, u197, u198, u199, u200, u201, u202, u203, u204, u205, u206, u207, u208, u209, u210, u211, u212, u213, u214, u215, u216, u217, u218, u219, u220, u221, u222, u223, u224, u225, u226, u227, u228, u229, u230, u231, u232, u233, u234, u235, u236, u237, u238, u239, u240, u241, u242, u243, u244, u245, u246, u247, u248, u249, u250, u251, u252, u253, u254, u255, u256, u257, u258, u259, u260, u261, u262, u263, u264, u265, u266, u267, u268, u269, u270, u271, u272, u273, u274, u275, u276, u277, u278, u279, u280, u281, u282, u283, u284, u285, u286, u287, u288, u289, u290, u291, u292, u293, u294, u295, u296, u297, u298, u299, u300, u301, u302, u303, u304, u305, u306, u307, u308, u309, u310, u311, u312, u313, u314, u315, u316, u317, u318, u319, u320, u321, u322, u323, u324, u325, u326, c327, c328, c329, c330, c331, c332, c333, c334, c335, c336, c337, c338, c339, c340, c341, c342, c343, c344, c345, c346, c347, c348, c349, c350, c351, c352, c353, c354, c355, c356, c357, c358, c359, c360, c361, c362, c363, c364], []⟩ w1) :
    Code.wp Yba.prog (nav [1, 1, 1, 1, 1, 1, 0, 1, 1, 1, 1, 0] (Yba.f3.body.getD .skip)) Q ⟨#[c0, c1, c2, .pointer (some ⟨cB, 0, none⟩), .slice (some ⟨ge, 0, none⟩) n n, c5, c6, .int .i64 ((d7 : Nat) : Int), .int .i64 ((d8 : Nat) : Int), .int .i64 ((d9 : Nat) : Int), .int .i64 ((p : Nat) : Int), c11, c12, c13, c14, c15, c16, c17, c18, c19, c20, c21, c22, c23, c24, c25, c26, c27, c28, c29, c30, c31, c32, c33, c34, c35, c36, c37, c38, c39, c40, c41, c42, c43, c44, c45, c46, c47, c48, c49, c50, c51, c52, c53, c54, c55, c56, c57, c58, c59, c60, c61, c62, c63, c64, c65, c66, c67, c68, c69, c70, c71, c72, c73, c74, c75, c76, c77, c78, c79, c80, c81, c82, c83, c84, c85, c86, c87, c88, c89, c90, c91, c92, c93, c94, c95, c96, c97, c98, c99, c100, c101, c102, c103, c104, c105, c106, c107, c108, c109, c110, c111, c112, c113, c114, c115, c116, c117, c118, c119, c120, c121, c122, c123, c124, c125, c126, c127, c128, c129, c130, c131, c132, c133, c134, c135, c136, c137, c138, c139, c140, c141, c142, c143, c144, c145, c146, c147, c148, c149, c150, c151, c152, c153, c154, c155, c156, c157, c158, c159, c160, c161, c162, c163, c164, c165, c166, c167, c168, c169, c170, c171, c172, c173, c174, c175, c176, c177, c178, c179, c180, c181, c182, c183, c184, c185, c186, c187, c188, c189, c190, c191, c192, c193, c194, c195, c196, c197, c198, c199, c200, c201, c202, c203, c204, c205, c206, c207, c208, c209, c210, c211, c212, c213, c214, c215, c216, c217, c218, c219, c220, c221, c222, c223, c224, c225, c226, c227, c228, c229, c230, c231, c232, c233, c234, c235, c236, c237, c238, c239, c240, c241, c242, c243, c244, c245, c246, c247, c248, c249, c250, c251, c252, c253, c254, c255, c256, c257, c258, c259, c260, c261, c262, c263, c264, c265, c266, c267, c268, c269, c270, c271, c272, c273, c274, c275, c276, c277, c278, c279, c280, c281, c282, c283, c284, c285, c286, c287, c288, c289, c290, c291, c292, c293, c294, c295, c296, c297, c298, c299, c300, c301, c302, c303, c304, c305, c306, c307, c308, c309, c310, c311, c312, c313, c314, c315, c316, c317, c318, c319, c320, c321, c322, c323, c324, c325, c326, c327, c328, c329, c330, c331, c332, c333, c334, c335, c336, c337, c338, c339, c340, c341, c342, c343, c344, c345, c346, c347, c348, c349, c350, c351, c352, c353, c354, c355, c356, c357, c358, c359, c360, c361, c362, c363, c364], []⟩ w0 := by
  have HQ := hide hQ
  clear hQ
  obtain ⟨⟨gW, cW, hwl, hcw, hlw⟩, ⟨gR, cR, hrl, hcr, hlr⟩⟩ := hLS.lists hp
  conv => arg 2; whnf
  refine wp_block ?_
  refine wp_seq ?_
  refine q15 hp ?_
  intro _ _ _ v1 hv
  rw [hv]
  clear hv v1
  show Code.wp _ _ _ _ _
  refine wp_seq ?_
  refine q16 (hLS.ev p hp) ?_
  rintro _ _ _ _ _ _ _ _ _ w1 ⟨hb1, hrA⟩
  show Code.wp _ _ _ _ _
  have ht1 : Below w0.heap.size w0 w1 := hb1
  have hL1 := hLS.bel ht1
  refine wp_seq ?_
  refine q17 (hL1.ev p hp) ?_
  rintro _ _ _ _ _ _ _ _ _ w2 ⟨hb2, hrO⟩
  show Code.wp _ _ _ _ _
  have ht2 : Below w0.heap.size w0 w2 := kstep ht1 hb2 ht1.size
  have hL2 := hLS.bel ht2
  refine wp_seq ?_
  refine q18 ?_
  intro  v1 hv
  rw [hv]
  clear hv v1
  show Code.wp _ _ _ _ _
  refine wp_seq ?_
  refine q19 ?_
  intro  v1 hv
  rw [hv]
  clear hv v1
  show Code.wp _ _ _ _ _
  refine wp_seq ?_
  refine wp_seq ?_
  refine q20 ?_
  intro  v1 hv
  rw [hv]
  clear hv v1
  show Code.wp _ _ _ _ _
  refine qin hL2 hp hn ?_
  rintro _ _ _ _ _ _ _ _ _ _ _ _ _ _ _ _ _ _ _ _ _ _ _ _ _ _ _ _ _ _ _ _ _ _ _ _ _ _ _ _ _ _ _ _ _ _ _ _ _ _ _ _ _ _ _ _ _ _ _ _ _ _ _ _ _ _ _ _ _ _ _ _ _ _ _ _ _ _ _ w3 hb3
  show Code.wp _ _ _ _ _
  have ht3 : Below w0.heap.size w0 w3 := kstep ht2 hb3 ht2.size
  have hL3 := hLS.bel ht3
  refine wp_seq ?_
  refine q36 hd7 ?_
  intro _ _ _ v1 hv
  rw [hv]
  clear hv v1
  show Code.wp _ _ _ _ _
  refine wp_seq ?_
  refine q38 hd8 ?_
  intro _ _ _ v1 hv
  rw [hv]
  clear hv v1
  show Code.wp _ _ _ _ _
  refine wp_seq ?_
  refine q40 hd9 ?_
  intro _ _ _ v1 hv
  rw [hv]
  clear hv v1
  show Code.wp _ _ _ _ _
  have hrA3 := RowAt.chg (F := fun _ => False) (RowAt.chg (F := fun _ => False) hrA (Chg.of_below hb2) (fun h => h)) (Chg.of_below hb3) (fun h => h)
  refine wp_seq ?_
  refine q42 hL3 hp hcB hA hrA3 ?_
  rintro _ _ _ _ _ _ w4 hb4
  show Code.wp _ _ _ _ _
  have ht4 : Below w0.heap.size w0 w4 := kstep ht3 hb4 ht3.size
  have hL4 := hLS.bel ht4
  rw [hwl]
  refine wp_seq ?_
  refine q43 ?_
  intro _ _ _ _ v1 hv
  rw [hv]
  clear hv v1
  show Code.wp _ _ _ _ _
  refine wp_seq ?_
  refine q45 hlw (bsome ht4 (Nat.le_refl _) hcw) ?_
  intro _ _ _ _ v1 hv
  rw [hv]
  clear hv v1
  show Code.wp _ _ _ _ _
  refine wp_seq ?_
  refine q46 (hL4.ev p hp) (hL4.waits p hp).1 ?_
  rintro _ _ _ _ _ _ _ _ _ _ _ _ _ _ _ _ _ _ _ _ _ _ _ _ _ _ _ _ _ _ _ _ _ _ _ _ _ _ _ _ _ _ _ _ _ _ w5 hb5
  show Code.wp _ _ _ _ _
  have ht5 : Below w0.heap.size w0 w5 := kstep ht4 hb5 ht4.size
  have hL5 := hLS.bel ht5
  refine wp_seq ?_
  refine q48 (hL5.waits p hp).1 ?_
  rintro _ _ _ _ _ _ _ _ _ _ _ _ _ _ _ _ _ _ _ w6 hb6
  show Code.wp _ _ _ _ _
  have ht6 : Below w0.heap.size w0 w6 := kstep ht5 hb6 ht5.size
  have hL6 := hLS.bel ht6
  have hrO3 := RowAt.chg (F := fun _ => False) (RowAt.chg (F := fun _ => False) (RowAt.chg (F := fun _ => False) (RowAt.chg (F := fun _ => False) hrO (Chg.of_below hb3) (fun h => h)) (Chg.of_below hb4) (fun h => h)) (Chg.of_below hb5) (fun h => h)) (Chg.of_below hb6) (fun h => h)
  refine wp_seq ?_
  refine q50 hL6 hp hcB hO hrO3 ?_
  rintro _ _ _ _ _ _ w7 hb7
  show Code.wp _ _ _ _ _
  have ht7 : Below w0.heap.size w0 w7 := kstep ht6 hb7 ht6.size
  have hL7 := hLS.bel ht7
  rw [hrl]
  refine wp_seq ?_
  refine q51 hlr (bsome ht7 (Nat.le_refl _) hcr) ?_
  intro _ _ _ _ _ _ _ _ _ _ _ _ v1 hv
  rw [hv]
  clear hv v1
  show Code.wp _ _ _ _ _
  refine wp_seq ?_
  refine q53 hL7 hp hcB hN ?_
  rintro _ _ _ _ _ _ _ _ _ w8 hb8
  show Code.wp _ _ _ _ _
  have ht8 : Below w0.heap.size w0 w8 := kstep ht7 hb8 ht7.size
  have hL8 := hLS.bel ht8
  refine wp_seq ?_
  refine q54 hL8 hp hcB ?_
  rintro _ _ _ _ _ _ _ _ _ _ _ _ _ _ w9 hb9
  show Code.wp _ _ _ _ _
  have ht9 : Below w0.heap.size w0 w9 := kstep ht8 hb9 ht8.size
  have hL9 := hLS.bel ht9
  refine wp_seq ?_
  refine q56 hL9 hp hcB hN ?_
  rintro _ _ _ _ _ _ _ _ _ w10 hb10
  show Code.wp _ _ _ _ _
  have ht10 : Below w0.heap.size w0 w10 := kstep ht9 hb10 ht9.size
  have hL10 := hLS.bel ht10
  refine q57 hL10 hp hcB ?_
  rintro _ _ _ _ _ _ _ _ _ _ _ _ _ _ w11 hb11
  show Q _ _ _
  apply HQ.out
  exact kstep ht10 hb11 ht10.size

end Go.Proofs.Ybulkdaie.Scr
