/-
  'LawS2767AAppend': a round of the main loop at an entry of kind 1. (By a program of ours, off the function's own slots.)
-/
import Derived.Test.YbulkbegyL3
namespace Go.Proofs.Ybulkbegy
open Go.RowKit
set_option linter.unusedVariables false
set_option linter.unusedSimpArgs false

set_option maxRecDepth 1000000 in
set_option maxHeartbeats 4000000 in
theorem round1 (w : World) (p n b0 o0 cap0 pb bb : Nat) (bs : List Nat) (vL : Value) (nm kd : Nat → Int) (iv : Nat → Value) (il : Nat → Nat) (hI : In w b0 o0 n nm kd iv il) (hall : ∀ i, i < n → il i ≤ 256) (hn : n ≤ 256) (c0 c1 c2 c3 c4 c5 c6 c7 c8 c9 c15 c24 c31 c32 c33 c34 c35 c36 c37 c38 c39 c40 c41 c42 c43 c44 c45 c46 c47 c48 c49 c50 c51 c52 c53 c54 c55 c56 c57 c58 c59 c60 c61 c62 c63 c64 c65 c66 c67 c68 c69 c70 c71 c72 c264 c265 c266 c267 c268 c269 c270 c271 c272 c273 c274 c275 c276 c277 c278 c279 c280 c281 c282 c283 c284 c285 c286 c287 c288 c289 c290 c291 c292 c293 c294 c295 c296 c297 c298 c299 c300 c301 c302 c303 c304 c305 c306 c307 c308 c309 c310 c311 c312 c313 c314 c315 c316 c317 c318 c319 c320 c321 c322 c323 c324 c325 c326 c327 c328 c329 c330 c331 c332 c333 c334 c335 c336 c337 c338 c339 c340 c341 c342 c343 c344 c345 c346 c347 c348 c349 c350 c351 c352 c353 c354 c355 c356 c357 c358 c359 c360 c361 c362 c363 c364 c365 c366 c367 c368 c369 c370 c371 c372 c373 c374 c375 c376 c377 c378 c379 c380 c381 c382 c383 c384 : Value) (t16 t17 t18 t19 t20 t21 t22 t23 t25 t26 t27 t28 t29 t30 t76 t77 t78 t79 t80 t81 t82 t83 t84 t85 t86 t87 t88 t89 t90 t91 t92 t93 t94 t95 t96 t97 t98 t99 t100 t101 t102 t103 t104 t105 t106 t107 t108 t109 t110 t111 t112 t113 t114 t115 t116 t117 t118 t119 t120 t121 t122 t123 t124 t125 t126 t127 t128 t129 t130 t131 t132 t133 t134 t135 t136 t137 t138 t139 t140 t141 t142 t143 t144 t145 t146 t147 t148 t149 t150 t151 t152 t153 t154 t155 t156 t157 t158 t159 t160 t161 t162 t163 t164 t165 t166 t167 t168 t169 t170 t171 t172 t173 t174 t175 t176 t177 t178 t179 t180 t181 t182 t183 t184 t185 t186 t187 t188 t189 t190 t191 t192 t193 t194 t195 t196 t197 t198 t199 t200 t201 t202 t203 t204 t205 t206 t207 t208 t209 t210 t211 t212 t213 t214 t215 t216 t217 t218 t219 t220 t221 t222 t223 t224 t225 t226 t227 t228 t229 t230 t231 t232 t233 t234 t235 t236 t237 t238 t239 t240 t241 t242 t243 t244 t245 t246 t247 t248 t249 t250 t251 t252 t253 t254 t255 t256 t257 t258 t259 t260 t261 t262 t263 : Value)
    (R : Nat → Nat) (es : List Ent) (vB vD vN vS vA : Value) (wr : World) (M : MainRel w.heap.size w p bs vL pb bb R es vB vD vN vS vA wr) (Q : Exit → Act → World → Prop) (helt : es.length < n) (hk5 : kd es.length % 5 = 1) :
    Code.wp Yba.prog ((((Yba.f3.body.map loopsOf).getD [])[2]?).getD .skip) (Exit.then (fun a' w' => L3 w p n b0 o0 cap0 pb bb bs vL c0 c1 c2 c3 c4 c5 c6 c7 c8 c9 c15 c24 c31 c32 c33 c34 c35 c36 c37 c38 c39 c40 c41 c42 c43 c44 c45 c46 c47 c48 c49 c50 c51 c52 c53 c54 c55 c56 c57 c58 c59 c60 c61 c62 c63 c64 c65 c66 c67 c68 c69 c70 c71 c72 c264 c265 c266 c267 c268 c269 c270 c271 c272 c273 c274 c275 c276 c277 c278 c279 c280 c281 c282 c283 c284 c285 c286 c287 c288 c289 c290 c291 c292 c293 c294 c295 c296 c297 c298 c299 c300 c301 c302 c303 c304 c305 c306 c307 c308 c309 c310 c311 c312 c313 c314 c315 c316 c317 c318 c319 c320 c321 c322 c323 c324 c325 c326 c327 c328 c329 c330 c331 c332 c333 c334 c335 c336 c337 c338 c339 c340 c341 c342 c343 c344 c345 c346 c347 c348 c349 c350 c351 c352 c353 c354 c355 c356 c357 c358 c359 c360 c361 c362 c363 c364 c365 c366 c367 c368 c369 c370 c371 c372 c373 c374 c375 c376 c377 c378 c379 c380 c381 c382 c383 c384 a' w' ∧ mu3 n a' w' < mu3 n ⟨#[c0, c1, c2, c3, c4, c5, c6, c7, c8, c9, .pointer (some ⟨bb, 0, none⟩), vD, vN, vS, vA, c15, t16, t17, t18, t19, t20, t21, t22, t23, c24, t25, t26, t27, t28, t29, t30, c31, c32, c33, c34, c35, c36, c37, c38, c39, c40, c41, c42, c43, c44, c45, c46, c47, c48, c49, c50, c51, c52, c53, c54, c55, c56, c57, c58, c59, c60, c61, c62, c63, c64, c65, c66, c67, c68, c69, c70, c71, c72, .slice (some ⟨b0, o0, none⟩) n cap0, .int .i64 (n : Int), .int .i64 (es.length : Int), t76, t77, t78, t79, t80, t81, t82, t83, t84, t85, t86, t87, t88, t89, t90, t91, t92, t93, t94, t95, t96, t97, t98, t99, t100, t101, t102, t103, t104, t105, t106, t107, t108, t109, t110, t111, t112, t113, t114, t115, t116, t117, t118, t119, t120, t121, t122, t123, t124, t125, t126, t127, t128, t129, t130, t131, t132, t133, t134, t135, t136, t137, t138, t139, t140, t141, t142, t143, t144, t145, t146, t147, t148, t149, t150, t151, t152, t153, t154, t155, t156, t157, t158, t159, t160, t161, t162, t163, t164, t165, t166, t167, t168, t169, t170, t171, t172, t173, t174, t175, t176, t177, t178, t179, t180, t181, t182, t183, t184, t185, t186, t187, t188, t189, t190, t191, t192, t193, t194, t195, t196, t197, t198, t199, t200, t201, t202, t203, t204, t205, t206, t207, t208, t209, t210, t211, t212, t213, t214, t215, t216, t217, t218, t219, t220, t221, t222, t223, t224, t225, t226, t227, t228, t229, t230, t231, t232, t233, t234, t235, t236, t237, t238, t239, t240, t241, t242, t243, t244, t245, t246, t247, t248, t249, t250, t251, t252, t253, t254, t255, t256, t257, t258, t259, t260, t261, t262, t263, c264, c265, c266, c267, c268, c269, c270, c271, c272, c273, c274, c275, c276, c277, c278, c279, c280, c281, c282, c283, c284, c285, c286, c287, c288, c289, c290, c291, c292, c293, c294, c295, c296, c297, c298, c299, c300, c301, c302, c303, c304, c305, c306, c307, c308, c309, c310, c311, c312, c313, c314, c315, c316, c317, c318, c319, c320, c321, c322, c323, c324, c325, c326, c327, c328, c329, c330, c331, c332, c333, c334, c335, c336, c337, c338, c339, c340, c341, c342, c343, c344, c345, c346, c347, c348, c349, c350, c351, c352, c353, c354, c355, c356, c357, c358, c359, c360, c361, c362, c363, c364, c365, c366, c367, c368, c369, c370, c371, c372, c373, c374, c375, c376, c377, c378, c379, c380, c381, c382, c383, c384], []⟩ wr) Q) ⟨#[c0, c1, c2, c3, c4, c5, c6, c7, c8, c9, .pointer (some ⟨bb, 0, none⟩), vD, vN, vS, vA, c15, t16, t17, t18, t19, t20, t21, t22, t23, c24, t25, t26, t27, t28, t29, t30, c31, c32, c33, c34, c35, c36, c37, c38, c39, c40, c41, c42, c43, c44, c45, c46, c47, c48, c49, c50, c51, c52, c53, c54, c55, c56, c57, c58, c59, c60, c61, c62, c63, c64, c65, c66, c67, c68, c69, c70, c71, c72, .slice (some ⟨b0, o0, none⟩) n cap0, .int .i64 (n : Int), .int .i64 (es.length : Int), t76, t77, t78, t79, t80, t81, t82, t83, t84, t85, t86, t87, t88, t89, t90, t91, t92, t93, t94, t95, t96, t97, t98, t99, t100, t101, t102, t103, t104, t105, t106, t107, t108, t109, t110, t111, t112, t113, t114, t115, t116, t117, t118, t119, t120, t121, t122, t123, t124, t125, t126, t127, t128, t129, t130, t131, t132, t133, t134, t135, t136, t137, t138, t139, t140, t141, t142, t143, t144, t145, t146, t147, t148, t149, t150, t151, t152, t153, t154, t155, t156, t157, t158, t159, t160, t161, t162, t163, t164, t165, t166, t167, t168, t169, t170, t171, t172, t173, t174, t175, t176, t177, t178, t179, t180, t181, t182, t183, t184, t185, t186, t187, t188, t189, t190, t191, t192, t193, t194, t195, t196, t197, t198, t199, t200, t201, t202, t203, t204, t205, t206, t207, t208, t209, t210, t211, t212, t213, t214, t215, t216, t217, t218, t219, t220, t221, t222, t223, t224, t225, t226, t227, t228, t229, t230, t231, t232, t233, t234, t235, t236, t237, t238, t239, t240, t241, t242, t243, t244, t245, t246, t247, t248, t249, t250, t251, t252, t253, t254, t255, t256, t257, t258, t259, t260, t261, t262, t263, c264, c265, c266, c267, c268, c269, c270, c271, c272, c273, c274, c275, c276, c277, c278, c279, c280, c281, c282, c283, c284, c285, c286, c287, c288, c289, c290, c291, c292, c293, c294, c295, c296, c297, c298, c299, c300, c301, c302, c303, c304, c305, c306, c307, c308, c309, c310, c311, c312, c313, c314, c315, c316, c317, c318, c319, c320, c321, c322, c323, c324, c325, c326, c327, c328, c329, c330, c331, c332, c333, c334, c335, c336, c337, c338, c339, c340, c341, c342, c343, c344, c345, c346, c347, c348, c349, c350, c351, c352, c353, c354, c355, c356, c357, c358, c359, c360, c361, c362, c363, c364, c365, c366, c367, c368, c369, c370, c371, c372, c373, c374, c375, c376, c377, c378, c379, c380, c381, c382, c383, c384], []⟩ wr := by
  conv => arg 2; whnf
  obtain ⟨i28, hi28, hz28, hs28, hb28⟩ := info_parts Yba.info28
  obtain ⟨i29, hi29, hz29, hs29, hb29⟩ := info_parts Yba.info29
  obtain ⟨i30, hi30, hz30, hs30, hb30⟩ := info_parts Yba.info30
  obtain ⟨i9, hi9, hz9, hs9, hb9⟩ := info_parts Yba.info9
  have helt' : (es.length : Int) < (n : Int) := by omega
  have q0 : wr.cell? ⟨b0, o0 + es.length * 3, none⟩ = some (.int .u8 (nm es.length)) := (M.bel.cell (p := ⟨b0, o0 + es.length * 3, none⟩) hI.lt).trans (hI.c0 _ helt)
  have q1 : wr.cell? ⟨b0, o0 + es.length * 3 + 1, none⟩ = some (.int .u8 (kd es.length)) := (M.bel.cell (p := ⟨b0, o0 + es.length * 3 + 1, none⟩) hI.lt).trans (hI.c1 _ helt)
  have q2 : wr.cell? ⟨b0, o0 + es.length * 3 + 1 + 1, none⟩ = some (iv es.length) := (M.bel.cell (p := ⟨b0, o0 + es.length * 3 + 2, none⟩) hI.lt).trans (hI.c2 _ helt)
  obtain ⟨ia, ic, hiv, hin⟩ := hI.sl _ helt
  rw [hiv] at q2
  have hnb := hI.nb _ helt
  have hkb := hI.kb _ helt
  have hile := hall _ helt
  generalize nm es.length = NM at q0 hnb
  generalize kd es.length = KD at q1 hkb hk5
  generalize il es.length = IL at q2 hin hile
  have HIN := hideP hin
  clear hiv hin hI hall
  have hbc : wr.cell? ⟨bb, 3, none⟩ = some vB := by rw [M.hb.cell]; rfl
  have lbb := M.hb.lt
  have lbb1 : bb < wr.heap.size + 1 := by omega
  have lbb2 : bb < wr.heap.size + 1 + 1 := by omega
  have lbb3 : bb < wr.heap.size + 1 + 1 + 1 := by omega
  have lbb4 : bb < wr.heap.size + 1 + 1 + 1 + 1 := by omega
  have hwN := M.bel.size
  have hol : (outs es).length ≤ es.length := List.length_filter_le _ _
  go_wp2_with fail
  refine (name_any NM _ hnb.1 hnb.2).mono ?_
  rintro e1 w' ⟨rfl, rfl⟩
  have hnk : (NM % 7).toNat < 7 := by omega
  generalize (NM % 7).toNat = NK at hnk
  go_wp2_with (first | (at_builtin; refine wpList_append_own_at _ rfl _ _ 37 rfl w.heap.size 28 i28 (.pointer none) 1 8 Yba.underlying37 hi28 hz28 hs28 hb28 rfl (by decide) _ _ _ rfl ((((M.hD.1.alloc _).alloc _).alloc _).alloc _) _ 1 1 [ptr (wr.heap.size + 1)] rfl rfl ?c11 (one_cell' _ rfl) ?c31 ?c41 ?c51 ?_))
  case c11 => exact one_new _ _ _ _ (by first | rfl | simp)
  case c31 => unfold maxLen; simp; omega
  case c41 => simp; omega
  case c51 => simp; omega
  intro v1' w1 hown1 hgrow1 _ hat1
  obtain ⟨va1, vc1, hv1⟩ := ownsRow_slice hown1
  subst hv1
  obtain ⟨R1, M1⟩ := ((M.step rfl (Step.allocs R wr [_, defObj NK 56 _, arrObj (.slice none 0 0)]) (by simp)).addEnt (ent1 R _ wr _ NK (wr.heap.size + 1) (wr.heap.size + 1 + 1) hnk rfl rfl)).pushD rfl hown1 hgrow1 hat1 (by simp [allocs_size]) (by simp)
  clear hown1 hgrow1 hat1
  have hwN1 := M1.bel.size
  go_wp2_with (first | (at_builtin; refine wpList_append_own_at _ rfl _ _ 40 rfl w.heap.size 29 i29 (.pointer none) 1 8 Yba.underlying40 hi29 hz29 hs29 hb29 rfl (by decide) _ _ _ rfl (M1.hN.1.alloc _) _ 1 1 [Value.pointer none] rfl rfl ?c12 (one_cell' _ rfl) ?c32 ?c42 ?c52 ?_))
  case c12 => exact one_new _ _ _ _ (by first | rfl | simp)
  case c32 => unfold maxLen; simp; omega
  case c42 => simp; omega
  case c52 => simp; omega
  intro v2' w2 hown2 hgrow2 _ hat2
  obtain ⟨va2, vc2, hv2⟩ := ownsRow_slice hown2
  subst hv2
  obtain ⟨R2, M2⟩ := M1.pushN rfl hown2 hgrow2 hat2 (by simp [allocs_size]) (by simp)
  clear hown2 hgrow2 hat2
  have hwN2 := M2.bel.size
  go_wp2_with (first | (at_builtin; refine wpList_append_own_at _ rfl _ _ 41 rfl w.heap.size 9 i9 (.string ⟨#[]⟩) 1 16 Yba.underlying41 hi9 hz9 hs9 hb9 rfl (by decide) _ _ _ rfl (M2.hS.1.alloc _) _ 1 1 [Value.string (bareOf NK)] rfl rfl ?c13 (one_cell' _ rfl) ?c33 ?c43 ?c53 ?_))
  case c13 => exact one_new _ _ _ _ (by first | rfl | simp)
  case c33 => unfold maxLen; simp; omega
  case c43 => simp; omega
  case c53 => simp; omega
  intro v3' w3 hown3 hgrow3 _ hat3
  obtain ⟨va3, vc3, hv3⟩ := ownsRow_slice hown3
  subst hv3
  obtain ⟨R3, M3⟩ := M2.pushS rfl hown3 hgrow3 hat3 (by simp [allocs_size]) (by simp)
  clear hown3 hgrow3 hat3
  have hwN3 := M3.bel.size
  go_wp2_with (first | (at_builtin; refine wpList_append_own_at _ rfl _ _ 42 rfl w.heap.size 30 i30 (.pointer none) 1 8 Yba.underlying42 hi30 hz30 hs30 hb30 rfl (by decide) _ _ _ rfl (M3.hA.1.alloc _) _ 1 1 [Value.pointer none] rfl rfl ?c14 (one_cell' _ rfl) ?c34 ?c44 ?c54 ?_))
  case c14 => exact one_new _ _ _ _ (by first | rfl | simp)
  case c34 => unfold maxLen; simp; omega
  case c44 => simp; omega
  case c54 => simp; omega
  intro v4' w4 hown4 hgrow4 _ hat4
  obtain ⟨va4, vc4, hv4⟩ := ownsRow_slice hown4
  subst hv4
  obtain ⟨R4, M4⟩ := M3.pushA rfl hown4 hgrow4 hat4 (by simp [allocs_size]) (by simp)
  clear hown4 hgrow4 hat4
  have hwN4 := M4.bel.size
  have hbc4 : w4.cell? ⟨bb, 3, none⟩ = some vB := by rw [M4.hb.cell]; rfl
  go_wp2_with (first | (at_builtin; refine wpList_append_own_at _ rfl _ _ 37 rfl w.heap.size 28 i28 (.pointer none) 1 8 Yba.underlying37 hi28 hz28 hs28 hb28 rfl (by decide) _ _ _ rfl (M4.hB.1.alloc _) _ 1 1 [ptr (wr.heap.size + 1)] rfl rfl ?c15 (one_cell' _ rfl) ?c35 ?c45 ?c55 ?_))
  case c15 => exact one_new _ _ _ _ (by first | rfl | simp)
  case c35 => unfold maxLen; simp; omega
  case c45 => simp; omega
  case c55 => simp; omega
  intro v5' w5 hown5 hgrow5 _ hat5
  obtain ⟨va5, vc5, hv5⟩ := ownsRow_slice hown5
  subst hv5
  obtain ⟨R5, M5⟩ := M4.pushB rfl hown5 hgrow5 hat5 (by simp [allocs_size]) (by simp)
  clear hown5 hgrow5 hat5
  have hwN5 := M5.bel.size
  have f3 := M5.hb.frozen 3
  have c3' : w5.cell? ⟨bb, 3, none⟩ = some vB := by rw [M5.hb.cell]; rfl
  have HM := hideP (M5.store rfl (.slice va5 (es.length + 1) vc5))
  clear M5
  go_wp2_with fail
  refine ⟨?_, by simp [mu3, intOf]; omega⟩
  unfold L3
  exact ⟨_, _, _, _, _, _, _, _, _, _, _, _, _, _, _, _, _, _, _, _, _, _, _, _, _, _, _, _, _, _, _, _, _, _, _, _, _, _, _, _, _, _, _, _, _, _, _, _, _, _, _, _, _, _, _, _, _, _, _, _, _, _, _, _, _, _, _, _, _, _, _, _, _, _, _, _, _, _, _, _, _, _, _, _, _, _, _, _, _, _, _, _, _, _, _, _, _, _, _, _, _, _, _, _, _, _, _, _, _, _, _, _, _, _, _, _, _, _, _, _, _, _, _, _, _, _, _, _, _, _, _, _, _, _, _, _, _, _, _, _, _, _, _, _, _, _, _, _, _, _, _, _, _, _, _, _, _, _, _, _, _, _, _, _, _, _, _, _, _, _, _, _, _, _, _, _, _, _, _, _, _, _, _, _, _, _, _, _, _, _, _, _, _, _, _, _, _, _, _, _, _, _, _, _, _, _, _, R5, es ++ [⟨NK, 1, wr.heap.size + 1, wr.heap.size + 1 + 1, noSlice, []⟩], _, by simp; omega, by simp, main_out rfl HM.out, rfl⟩
end Go.Proofs.Ybulkbegy
