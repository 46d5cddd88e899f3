/-
  The first loop.
-/
import Derived.Test.YbulkdaieS30
namespace Go.Proofs.Ybulkdaie.Scr
open Go.RowKit Go.Maps
set_option linter.unusedVariables false
set_option linter.unusedSimpArgs false

theorem scfar2 {w : World} {b g o j : Nat} {vs : List Value} {v : Value} (h : w.cell? ⟨b, j, none⟩ = some v) (hne : b ≠ g) : (w.setCells g o vs).cell? ⟨b, j, none⟩ = some v := by
  have hc : Chg (fun k => k = g) w (w.setCells g o vs) := Chg.of_grown (grown_setCells vs o w w ⟨rfl, rfl, rfl, Nat.le_refl _, fun _ _ _ => rfl⟩) (fun k e => .inl (by cases e; rfl))
  exact csome hc h hne

/-- The store of an event, as one step of its own: the row of the cells stays shut. -/
def evSt (a : Addr) (L E F : Int) (s1 s2 : ByteArray) : Sem Unit := storeCells a [.int .i64 L, .int .i64 0, .string ⟨#[]⟩, .string s1, .int .u64 0, .int .i64 0, .pointer none, .bool false, .int .u64 E, .int .u64 F, .bool false, .int .u64 0, .int .u64 0, .string ⟨#[]⟩, .int .u64 0, .int .i64 0, .int .i64 0, .string ⟨#[]⟩, .int .i64 0, .int .u64 0, .int .u64 0, .int .u64 0, .int .u64 0, .int .i64 0, .int .i64 0, .int .u64 0, .string ⟨#[]⟩, .string ⟨#[]⟩, .int .u64 0, .int .u64 0, .int .i64 0, .int .i64 0, .string ⟨#[]⟩, .string ⟨#[109, 97, 106, 111, 114, 105, 116, 121]⟩, .string s2, .int .u64 0] 0
theorem evSt_run (w : World) (b o : Nat) (L E F : Int) (s1 s2 : ByteArray) (ht : w.there b o 36) : (evSt ⟨b, o, none⟩ L E F s1 s2).run Yba.prog w = .ok () (w.setCells b o (evC L E F s1 s2)) := by
  rw [evSt]
  exact sc36 w b o L E F s1 s2 ht
theorem evSt_is (a : Addr) (L E F : Int) (s1 s2 : ByteArray) : storeCells a [.int .i64 L, .int .i64 0, .string ⟨#[]⟩, .string s1, .int .u64 0, .int .i64 0, .pointer none, .bool false, .int .u64 E, .int .u64 F, .bool false, .int .u64 0, .int .u64 0, .string ⟨#[]⟩, .int .u64 0, .int .i64 0, .int .i64 0, .string ⟨#[]⟩, .int .i64 0, .int .u64 0, .int .u64 0, .int .u64 0, .int .u64 0, .int .i64 0, .int .i64 0, .int .u64 0, .string ⟨#[]⟩, .string ⟨#[]⟩, .int .u64 0, .int .u64 0, .int .i64 0, .int .i64 0, .string ⟨#[]⟩, .string ⟨#[109, 97, 106, 111, 114, 105, 116, 121]⟩, .string s2, .int .u64 0] 0 = evSt a L E F s1 s2 := by rw [evSt]
theorem evStore : ∃ (ev : Int → Int → Int → ByteArray → ByteArray → List Value) (es : Addr → Int → Int → Int → ByteArray → ByteArray → Sem Unit), ev = evC ∧
    (∀ (a : Addr) (L E F : Int) (s1 s2 : ByteArray), storeCells a [.int .i64 L, .int .i64 0, .string ⟨#[]⟩, .string s1, .int .u64 0, .int .i64 0, .pointer none, .bool false, .int .u64 E, .int .u64 F, .bool false, .int .u64 0, .int .u64 0, .string ⟨#[]⟩, .int .u64 0, .int .i64 0, .int .i64 0, .string ⟨#[]⟩, .int .i64 0, .int .u64 0, .int .u64 0, .int .u64 0, .int .u64 0, .int .i64 0, .int .i64 0, .int .u64 0, .string ⟨#[]⟩, .string ⟨#[]⟩, .int .u64 0, .int .u64 0, .int .i64 0, .int .i64 0, .string ⟨#[]⟩, .string ⟨#[109, 97, 106, 111, 114, 105, 116, 121]⟩, .string s2, .int .u64 0] 0 = es a L E F s1 s2) ∧
    (∀ (w : World) (b o : Nat) (L E F : Int) (s1 s2 : ByteArray), w.there b o 36 → (es ⟨b, o, none⟩ L E F s1 s2).run Yba.prog w = .ok () (w.setCells b o (ev L E F s1 s2))) :=
  ⟨evC, evSt, rfl, evSt_is, evSt_run⟩

set_option maxHeartbeats 8000000 in
set_option maxRecDepth 100000 in
theorem q5 {w w0 : World} {ge cB : Nat} {ltA ltO ltN : Nat → Lit} {xn xo xe xc : Nat → Nat} {sa : Option Addr} {sl sc : Nat} (hst : Steps w sa sl xn xo xe xc) (hL : ∃ (A : Tags) (wb : Nat → Nat) (D1 D2 D3 D4 : DataW Unit) (wl rl : Nat → Value) (sw su : Nat → SD) (C : List Value), LS w w0 A ge sl ltA ltO ltN xn xo xe xc wb 0 D1 D2 D3 D4 wl rl sw su C) (hcB : cB = w.heap.size + 4) (hA : ∀ k, k < 54 → keyOf Yba.prog 46 (keyA k) = some (ltA k)) (hO : ∀ k, k < 9 → keyOf Yba.prog 48 (keyO k) = some (ltO k)) (hN : ∀ k, k < 3 → keyOf Yba.prog 9 (keyN k) = some (ltN k)) (hsl : sl ≤ 300)
    {c1 c2 c5 c6 c7 c8 c9 c10 c11 c12 c13 c14 c15 c16 c17 c18 c19 c20 c21 c22 c23 c24 c25 c26 c27 c28 c29 c30 c31 c32 c33 c34 c35 c36 c37 c38 c39 c40 c41 c42 c43 c44 c45 c46 c47 c48 c49 c50 c51 c52 c53 c54 c55 c56 c57 c58 c59 c60 c61 c62 c63 c64 c65 c66 c67 c68 c69 c70 c71 c72 c73 c74 c75 c76 c77 c78 c79 c80 c81 c82 c83 c84 c85 c86 c87 c88 c89 c90 c91 c92 c93 c94 c95 c96 c97 c98 c99 c100 c101 c102 c103 c104 c105 c106 c107 c108 c109 c110 c111 c112 c113 c114 c115 c116 c117 c118 c119 c120 c121 c122 c123 c124 c125 c126 c127 c128 c129 c130 c131 c132 c133 c134 c135 c136 c137 c138 c139 c140 c141 c142 c143 c144 c145 c146 c147 c148 c149 c150 c151 c152 c153 c154 c155 c156 c157 c158 c159 c160 c161 c162 c163 c164 c165 c166 c167 c168 c169 c170 c171 c172 c173 c174 c175 c176 c177 c178 c179 c180 c181 c182 c183 c184 c185 c186 c187 c188 c189 c190 c191 c192 c193 c194 c195 c196 c197 c198 c199 c200 c201 c202 c203 c204 c205 c206 c207 c208 c209 c210 c211 c212 c213 c214 c215 c216 c217 c218 c219 c220 c221 c222 c223 c224 c225 c226 c227 c228 c229 c230 c231 c232 c233 c234 c235 c236 c237 c238 c239 c240 c241 c242 c243 c244 c245 c246 c247 c248 c249 c250 c251 c252 c253 c254 c255 c256 c257 c258 c259 c260 c261 c262 c263 c264 c265 c266 c267 c268 c269 c270 c271 c272 c273 c274 c275 c276 c277 c278 c279 c280 c281 c282 c283 c284 c285 c286 c287 c288 c289 c290 c291 c292 c293 c294 c295 c296 c297 c298 c299 c300 c301 c302 c303 c304 c305 c306 c307 c308 c309 c310 c311 c312 c313 c314 c315 c316 c317 c318 c319 c320 c321 c322 c323 c324 c325 c326 c327 c328 c329 c330 c331 c332 c333 c334 c335 c336 c337 c338 c339 c340 c341 c342 c343 c344 c345 c346 c347 c348 c349 c350 c351 c352 c353 c354 c355 c356 c357 c358 c359 c360 c361 c362 c363 c364 : Value} {Q : Exit → Act → World → Prop}
    (hQ : ∀ (u5 u6 u35 u36 u37 u38 u39 u40 u41 u42 u43 u44 u45 u46 u47 u48 u49 u50 u51 u52 u53 u54 u55 u56 u57 u58 u59 u60 u61 u62 u63 u64 u65 u66 u67 u68 u69 u70 : Value) (w1 : World), (∃ (A : Tags) (wb : Nat → Nat) (D1 D2 D3 D4 : DataW Unit) (wl rl : Nat → Value) (sw su : Nat → SD) (C : List Value), LS w w1 A ge sl ltA ltO ltN xn xo xe xc wb sl D1 D2 D3 D4 wl rl sw su C) → Q .normal ⟨#[.slice sa sl sc, c1, c2, .pointer (some ⟨cB, 0, none⟩), .slice (some ⟨ge, 0, none⟩) sl sl, u5, u6, c7, c8, c9, c10, c11, c12, c13, c14, c15, c16, c17, c18, c19, c20, c21, c22, c23, c24, c25, c26, c27, c28, c29, c30, c31, c32, c33, c34, u35, u36, u37, u38, u39, u40, u41, u42, u43, u44, u45, u46, u47, u48, u49, u50, u51, u52, u53, u54, u55, u56, u57, u58, u59, u60, u61, u62, u63, u64, u65, u66, u67, u68, u69, u70, c71, c72, c73, c74, c75, c76, c77, c78, c79, c80, c81, c82, c83, c84, c85, c86, c87, c88, c89, c90, c91, c92, c93, c94, c95, c96, c97, c98, c99, c100, c101, c102, c103, c104, c105, c106, c107, c108, c109, c110, c111, c112, c113, c114, c115, c116, c117, c118, c119, c120, c121, c122, c123, c124, c125, c126, c127, c128, c129, c130, c131, c132, c133, c134, c135, c136, c137, c138, c139, c140, c141, c142, c143, c144, c145, c146, c147, c148, c149, c150, c151, c152, c153, c154, c155, c156, c157, c158, c159, c160, c161, c162, c163, c164, c165, c166, c167, c168, c169, c170, c171, c172, c173, c174, c175, c176, c177, c178, c179, c180, c181, c182, c183, c184, c185, c186, c187, c188, c189, c190, c191, c192, c193, c194, c195, c196, c197, c198, c199, c200, c201, c202, c203, c204, c205, c206, c207, c208, c209, c210, c211, c212, c213, c214, c215, c216, c217, c218, c219, c220, c221, c222, c223, c224, c225, c226, c227, c228, c229, c230, c231, c232, c233, c234, c235, c236, c237, c238, c239, c240, c241, c242, c243, c244, c245, c246, c247, c248, c249, c250, c251, c252, c253, c254, c255, c256, c257, c258, c259, c260, c261, c262, c263, c264, c265, c266, c267, c268, c269, c270, c271, c272, c273, c274, c275, c276, c277, c278, c279, c280, c281, c282, c283, c284, c285, c286, c287, c288, c289, c290, c291, c292, c293, c294, c295, c296, c297, c298, c299, c300, c301, c302, c303, c304, c305, c306, c307, c308, c309, c310, c311, c312, c313, c314, c315, c316, c317, c318, c319, c320, c321, c322, c323, c324, c325, c326, c327, c328, c329, c330, c331, c332, c333, c334, c335, c336, c337, c338, c339, c340, c341, c342, c343, c344, c345, c346, c347, c348, c349, c350, c351, c352, c353, c354, c355, c356, c357, c358, c359, c360, c361, c362, c363, c364], []⟩ w1) :
    Code.wp Yba.prog (nav [1, 1, 1, 1, 0] (Yba.f3.body.getD .skip)) Q ⟨#[.slice sa sl sc, c1, c2, .pointer (some ⟨cB, 0, none⟩), .slice (some ⟨ge, 0, none⟩) sl sl, c5, c6, c7, c8, c9, c10, c11, c12, c13, c14, c15, c16, c17, c18, c19, c20, c21, c22, c23, c24, c25, c26, c27, c28, c29, c30, c31, c32, c33, c34, c35, c36, c37, c38, c39, c40, c41, c42, c43, c44, c45, c46, c47, c48, c49, c50, c51, c52, c53, c54, c55, c56, c57, c58, c59, c60, c61, c62, c63, c64, c65, c66, c67, c68, c69, c70, c71, c72, c73, c74, c75, c76, c77, c78, c79, c80, c81, c82, c83, c84, c85, c86, c87, c88, c89, c90, c91, c92, c93, c94, c95, c96, c97, c98, c99, c100, c101, c102, c103, c104, c105, c106, c107, c108, c109, c110, c111, c112, c113, c114, c115, c116, c117, c118, c119, c120, c121, c122, c123, c124, c125, c126, c127, c128, c129, c130, c131, c132, c133, c134, c135, c136, c137, c138, c139, c140, c141, c142, c143, c144, c145, c146, c147, c148, c149, c150, c151, c152, c153, c154, c155, c156, c157, c158, c159, c160, c161, c162, c163, c164, c165, c166, c167, c168, c169, c170, c171, c172, c173, c174, c175, c176, c177, c178, c179, c180, c181, c182, c183, c184, c185, c186, c187, c188, c189, c190, c191, c192, c193, c194, c195, c196, c197, c198, c199, c200, c201, c202, c203, c204, c205, c206, c207, c208, c209, c210, c211, c212, c213, c214, c215, c216, c217, c218, c219, c220, c221, c222, c223, c224, c225, c226, c227, c228, c229, c230, c231, c232, c233, c234, c235, c236, c237, c238, c239, c240, c241, c242, c243, c244, c245, c246, c247, c248, c249, c250, c251, c252, c253, c254, c255, c256, c257, c258, c259, c260, c261, c262, c263, c264, c265, c266, c267, c268, c269, c270, c271, c272, c273, c274, c275, c276, c277, c278, c279, c280, c281, c282, c283, c284, c285, c286, c287, c288, c289, c290, c291, c292, c293, c294, c295, c296, c297, c298, c299, c300, c301, c302, c303, c304, c305, c306, c307, c308, c309, c310, c311, c312, c313, c314, c315, c316, c317, c318, c319, c320, c321, c322, c323, c324, c325, c326, c327, c328, c329, c330, c331, c332, c333, c334, c335, c336, c337, c338, c339, c340, c341, c342, c343, c344, c345, c346, c347, c348, c349, c350, c351, c352, c353, c354, c355, c356, c357, c358, c359, c360, c361, c362, c363, c364], []⟩ w0 := by
  obtain ⟨ev, es, hev, hes1, hes2⟩ := evStore
  have HEV := hide hev
  have HES1 := hide hes1
  have HES2 := hide hes2
  clear hev hes1 hes2
  have HQ := hide hQ
  clear hQ
  have HST := hide hst
  have HL0 := hide hL
  have HLA := hide hA
  have HLO := hide hO
  have HLN := hide hN
  have HCB := hide hcB
  clear hst hL hcB hA hO hN
  conv => arg 2; whnf
  go_wp2_with fail
  go_loopg [5] sl (fun gk iv wr => ∃ (i : Nat) (A : Tags) (wb : Nat → Nat) (D1 D2 D3 D4 : DataW Unit) (wl rl : Nat → Value) (sw su : Nat → SD) (C : List Value), i ≤ sl ∧ sl ≤ gk + i ∧ iv = .int .i64 (i : Int) ∧ LS w wr A ge sl ltA ltO ltN xn xo xe xc wb i D1 D2 D3 D4 wl rl sw su C)
  case atStart =>
    obtain ⟨A, wb, D1, D2, D3, D4, wl, rl, sw, su, C, h⟩ := HL0.out
    exact ⟨0, A, wb, D1, D2, D3, D4, wl, rl, sw, su, C, by omega, by omega, rfl, h⟩
  case round =>
    clear HL0
    obtain ⟨i, A, wb, D1, D2, D3, D4, wl, rl, sw, su, C, hi, hgk, rfl, hls⟩ := hrel
    have HLS := hide hls
    by_cases hlt : i < sl
    · obtain ⟨sb, so, hsa, s0, s1, s2, s3, h255a, h255b, h255c, h255d⟩ := HST.out.below hls.below i hlt
      subst hsa
      have hlti : (i : Int) < (sl : Int) := by omega
      have hi0 : (0 : Int) ≤ (i : Int) := by omega
      clear hls
      go_upto_region 9 with fail
      generalize hVV : (wr.alloc (Obj.cells #[Value.int IntKind.u8 ↑(xn i), Value.int IntKind.u8 ↑(xo i), Value.int IntKind.u8 ↑(xe i), Value.int IntKind.u8 ↑(xc i)] 28)) = V
      have hVc : Chg (fun _ => False) wr V := by rw [← hVV]; exact (Chg.refl _ _).alloc _
      have hVr : RowAt V wr.heap.size 28 [.int .u8 (xn i : Int), .int .u8 (xo i : Int), .int .u8 (xe i : Int), .int .u8 (xc i : Int)] := by rw [← hVV]; exact RowAt.new wr [.int .u8 (xn i : Int), .int .u8 (xo i : Int), .int .u8 (xe i : Int), .int .u8 (xc i : Int)] 28
      have hVe : RowAt V ge 42 C := RowAt.chg HLS.out.evs hVc (fun h => h)
      have hCl := HLS.out.clen
      have hgne : wr.heap.size ≠ ge := by have := HLS.out.evs.lt; omega
      have b0 : V.cell? ⟨wr.heap.size, 0, none⟩ = some (.int .u8 (xn i : Int)) := hVr.cell 0
      have b1 : V.cell? ⟨wr.heap.size, 1, none⟩ = some (.int .u8 (xo i : Int)) := hVr.cell 1
      have b2 : V.cell? ⟨wr.heap.size, 2, none⟩ = some (.int .u8 (xe i : Int)) := hVr.cell 2
      have b3 : V.cell? ⟨wr.heap.size, 3, none⟩ = some (.int .u8 (xc i : Int)) := hVr.cell 3
      have hthere : V.there ge (i * 36) 36 := fun k hk => ⟨by rw [hVe.cell, List.getElem?_eq_getElem (by omega)]; rfl, hVe.frozen _⟩
      have d0 : V.drew.cell? ⟨wr.heap.size, 0, none⟩ = some (.int .u8 (xn i : Int)) := b0
      have d1 : V.drew.cell? ⟨wr.heap.size, 1, none⟩ = some (.int .u8 (xo i : Int)) := b1
      have d2 : V.drew.cell? ⟨wr.heap.size, 2, none⟩ = some (.int .u8 (xe i : Int)) := b2
      have d3 : V.drew.cell? ⟨wr.heap.size, 3, none⟩ = some (.int .u8 (xc i : Int)) := b3
      have htd : V.drew.there ge (i * 36) 36 := hthere
      have e3 : ((xe i : Int) % 3) = ((xe i % 3 : Nat) : Int) := by omega
      have e6 : ((xc i : Int) % 6) = ((xc i % 6 : Nat) : Int) := by omega
      have hes1 := HES1.out
      have hes2 := HES2.out
      have HVR := hide hVr
      have HVE := hide hVe
      have HVC := hide hVc
      clear hVr hVe hVc hVV
      go_region_held3 (fun w' => w'.cell? ⟨wr.heap.size, 0, none⟩ = some (.int .u8 (xn i : Int)) ∧ w'.cell? ⟨wr.heap.size, 1, none⟩ = some (.int .u8 (xo i : Int)) ∧ w'.cell? ⟨wr.heap.size, 2, none⟩ = some (.int .u8 (xe i : Int)) ∧ w'.cell? ⟨wr.heap.size, 3, none⟩ = some (.int .u8 (xc i : Int)))
        (first | (exact ⟨d0, d1, d2, d3⟩) | (exact ⟨scfar2 d0 hgne, scfar2 d1 hgne, scfar2 d2 hgne, scfar2 d3 hgne⟩) | fail)
        (first
        | (go_at_call 6; refine (node_any (xn i) _ h255a).mono ?_; rintro r w2 ⟨rfl, hw2⟩; rw [hw2]; clear hw2 w2)
        | (go_at_call 7; refine (op_any (xo i) _ h255b).mono ?_; rintro r w2 ⟨rfl, hw2⟩; rw [hw2]; clear hw2 w2))
      have hL : IntKind.i64.wrap ((i : Int) + 1) = ((i + 1 : Nat) : Int) := by rw [IntKind.wrap_i64]; omega
      have hE : IntKind.u64.wrap ((xe i : Int).tmod 3) = ((xe i % 3 : Nat) : Int) := by rw [IntKind.wrap_u64, Int.tmod_eq_emod_of_nonneg (by omega)]; omega
      have hF : IntKind.u64.wrap ((xc i : Int).tmod 6) = ((xc i % 6 : Nat) : Int) := by rw [IntKind.wrap_u64, Int.tmod_eq_emod_of_nonneg (by omega)]; omega
      rw [hL, hE, hF, HEV.out]
      clear hes1 hes2
      have hX1 : RowAt (V.drew.setCells ge (i * 36) (evC ((i + 1 : Nat) : Int) ((xe i % 3 : Nat) : Int) ((xc i % 6 : Nat) : Int) (nodeS (xn i)) (opS (xo i)))) ge 42 (over C (i * 36) (evC ((i + 1 : Nat) : Int) ((xe i % 3 : Nat) : Int) ((xc i % 6 : Nat) : Int) (nodeS (xn i)) (opS (xo i)))) := RowAt.setCells _ _ V.drew C HVE.out (by rw [evC_len]; omega)
      have hX2 : Chg (fun k => k = ge) wr (V.drew.setCells ge (i * 36) (evC ((i + 1 : Nat) : Int) ((xe i % 3 : Nat) : Int) ((xc i % 6 : Nat) : Int) (nodeS (xn i)) (opS (xo i)))) := Chg.trans (HVC.out.mono (fun _ h => h.elim)) (Chg.of_grown (grown_setCells _ _ _ _ ⟨rfl, rfl, rfl, Nat.le_refl _, fun _ _ _ => rfl⟩) (fun k e => .inl (by cases e; rfl))) (fun k hk => .inl hk)
      generalize (V.drew.setCells ge (i * 36) (evC ((i + 1 : Nat) : Int) ((xe i % 3 : Nat) : Int) ((xc i % 6 : Nat) : Int) (nodeS (xn i)) (opS (xo i)))) = X at hX1 hX2 ⊢
      rename_i hHeld
      clear hHeld b0 b1 b2 b3 d0 d1 d2 d3 hthere htd e3 e6 hL hE hF HVR HVE HVC s0 s1 s2 s3
      obtain ⟨hS1, hS2, hS3, hS4, hS5⟩ := HLS.out.put hlt hX2 hX1
      have HSTART := hide (start_any ge (i * 36) (i + 1) (nodeS (xn i)) (opS (xo i)) (xe i % 3) (xc i % 6) X hS1 (hS2 i (by omega)) hS3 (injA xn xe xc HLA.out) (injO xn xo HLO.out) (injN xn HLN.out) (keyA_of xn xe xc HLA.out i) (keyO_of xn xo HLO.out i) (keyN_of xn HLN.out i) rfl (by omega) (by omega) (by omega) (Nat.le_trans HLS.out.below.size hX2.size) (if_pos rfl))
      have HX1 := hide hX1
      have HX2 := hide hX2
      clear hS1 hS2 hS3 hS4 hS5 hX1 hX2
      rw [← HCB.out] at HSTART
      go_wp2_with (go_at_call 8; refine HSTART.out.mono ?_; rintro r W' ⟨rfl, A', D1', D2', D3', D4', wl', rl', sw', su', hst', hw', htw', hcW', hA'⟩)
      go_roundg (gk - 1)
      case measure => omega
      case rel =>
        rw [HCB.out] at hst'
        have hnext := HLS.out.next (A1 := A') hlt HX2.out HX1.out hst' hw' htw' hcW' hA'
        exact ⟨i + 1, A', _, D1', D2', D3', D4', wl', rl', sw', su', _, by omega, by omega, by simp, hnext⟩
    · obtain rfl : i = sl := by omega
      have hnl : ¬ (i : Int) < (i : Int) := by omega
      clear hls
      go_wp2_with fail
      apply HQ.out
      exact ⟨A, wb, D1, D2, D3, D4, wl, rl, sw, su, C, HLS.out⟩

end Go.Proofs.Ybulkdaie.Scr
