/-
  'LawS2767AAppend': a round of the main loop at an entry of kind 2. (By a program of ours, off the function's own slots.)
-/
import Derived.Test.YbulkbegyL3
namespace Go.Proofs.Ybulkbegy
open Go.RowKit
set_option linter.unusedVariables false
set_option linter.unusedSimpArgs false

set_option maxRecDepth 1000000 in
set_option maxHeartbeats 4000000 in
theorem round2 (w : World) (p n b0 o0 cap0 pb bb : Nat) (bs : List Nat) (vL : Value) (nm kd : Nat → Int) (iv : Nat → Value) (il : Nat → Nat) (hI : In w b0 o0 n nm kd iv il) (hall : ∀ i, i < n → il i ≤ 256) (hn : n ≤ 256) (c0 c1 c2 c3 c4 c5 c6 c7 c8 c9 c15 c24 c31 c32 c33 c34 c35 c36 c37 c38 c39 c40 c41 c42 c43 c44 c45 c46 c47 c48 c49 c50 c51 c52 c53 c54 c55 c56 c57 c58 c59 c60 c61 c62 c63 c64 c65 c66 c67 c68 c69 c70 c71 c72 c264 c265 c266 c267 c268 c269 c270 c271 c272 c273 c274 c275 c276 c277 c278 c279 c280 c281 c282 c283 c284 c285 c286 c287 c288 c289 c290 c291 c292 c293 c294 c295 c296 c297 c298 c299 c300 c301 c302 c303 c304 c305 c306 c307 c308 c309 c310 c311 c312 c313 c314 c315 c316 c317 c318 c319 c320 c321 c322 c323 c324 c325 c326 c327 c328 c329 c330 c331 c332 c333 c334 c335 c336 c337 c338 c339 c340 c341 c342 c343 c344 c345 c346 c347 c348 c349 c350 c351 c352 c353 c354 c355 c356 c357 c358 c359 c360 c361 c362 c363 c364 c365 c366 c367 c368 c369 c370 c371 c372 c373 c374 c375 c376 c377 c378 c379 c380 c381 c382 c383 c384 : Value) (t16 t17 t18 t19 t20 t21 t22 t23 t25 t26 t27 t28 t29 t30 t76 t77 t78 t79 t80 t81 t82 t83 t84 t85 t86 t87 t88 t89 t90 t91 t92 t93 t94 t95 t96 t97 t98 t99 t100 t101 t102 t103 t104 t105 t106 t107 t108 t109 t110 t111 t112 t113 t114 t115 t116 t117 t118 t119 t120 t121 t122 t123 t124 t125 t126 t127 t128 t129 t130 t131 t132 t133 t134 t135 t136 t137 t138 t139 t140 t141 t142 t143 t144 t145 t146 t147 t148 t149 t150 t151 t152 t153 t154 t155 t156 t157 t158 t159 t160 t161 t162 t163 t164 t165 t166 t167 t168 t169 t170 t171 t172 t173 t174 t175 t176 t177 t178 t179 t180 t181 t182 t183 t184 t185 t186 t187 t188 t189 t190 t191 t192 t193 t194 t195 t196 t197 t198 t199 t200 t201 t202 t203 t204 t205 t206 t207 t208 t209 t210 t211 t212 t213 t214 t215 t216 t217 t218 t219 t220 t221 t222 t223 t224 t225 t226 t227 t228 t229 t230 t231 t232 t233 t234 t235 t236 t237 t238 t239 t240 t241 t242 t243 t244 t245 t246 t247 t248 t249 t250 t251 t252 t253 t254 t255 t256 t257 t258 t259 t260 t261 t262 t263 : Value)
    (R : Nat → Nat) (es : List Ent) (vB vD vN vS vA : Value) (wr : World) (M : MainRel w.heap.size w p bs vL pb bb R es vB vD vN vS vA wr) (Q : Exit → Act → World → Prop) (helt : es.length < n) (hk5 : kd es.length % 5 = 2) :
    Code.wp Yba.prog ((((Yba.f3.body.map loopsOf).getD [])[2]?).getD .skip) (Exit.then (fun a' w' => L3 w p n b0 o0 cap0 pb bb bs vL c0 c1 c2 c3 c4 c5 c6 c7 c8 c9 c15 c24 c31 c32 c33 c34 c35 c36 c37 c38 c39 c40 c41 c42 c43 c44 c45 c46 c47 c48 c49 c50 c51 c52 c53 c54 c55 c56 c57 c58 c59 c60 c61 c62 c63 c64 c65 c66 c67 c68 c69 c70 c71 c72 c264 c265 c266 c267 c268 c269 c270 c271 c272 c273 c274 c275 c276 c277 c278 c279 c280 c281 c282 c283 c284 c285 c286 c287 c288 c289 c290 c291 c292 c293 c294 c295 c296 c297 c298 c299 c300 c301 c302 c303 c304 c305 c306 c307 c308 c309 c310 c311 c312 c313 c314 c315 c316 c317 c318 c319 c320 c321 c322 c323 c324 c325 c326 c327 c328 c329 c330 c331 c332 c333 c334 c335 c336 c337 c338 c339 c340 c341 c342 c343 c344 c345 c346 c347 c348 c349 c350 c351 c352 c353 c354 c355 c356 c357 c358 c359 c360 c361 c362 c363 c364 c365 c366 c367 c368 c369 c370 c371 c372 c373 c374 c375 c376 c377 c378 c379 c380 c381 c382 c383 c384 a' w' ∧ mu3 n a' w' < mu3 n ⟨#[c0, c1, c2, c3, c4, c5, c6, c7, c8, c9, .pointer (some ⟨bb, 0, none⟩), vD, vN, vS, vA, c15, t16, t17, t18, t19, t20, t21, t22, t23, c24, t25, t26, t27, t28, t29, t30, c31, c32, c33, c34, c35, c36, c37, c38, c39, c40, c41, c42, c43, c44, c45, c46, c47, c48, c49, c50, c51, c52, c53, c54, c55, c56, c57, c58, c59, c60, c61, c62, c63, c64, c65, c66, c67, c68, c69, c70, c71, c72, .slice (some ⟨b0, o0, none⟩) n cap0, .int .i64 (n : Int), .int .i64 (es.length : Int), t76, t77, t78, t79, t80, t81, t82, t83, t84, t85, t86, t87, t88, t89, t90, t91, t92, t93, t94, t95, t96, t97, t98, t99, t100, t101, t102, t103, t104, t105, t106, t107, t108, t109, t110, t111, t112, t113, t114, t115, t116, t117, t118, t119, t120, t121, t122, t123, t124, t125, t126, t127, t128, t129, t130, t131, t132, t133, t134, t135, t136, t137, t138, t139, t140, t141, t142, t143, t144, t145, t146, t147, t148, t149, t150, t151, t152, t153, t154, t155, t156, t157, t158, t159, t160, t161, t162, t163, t164, t165, t166, t167, t168, t169, t170, t171, t172, t173, t174, t175, t176, t177, t178, t179, t180, t181, t182, t183, t184, t185, t186, t187, t188, t189, t190, t191, t192, t193, t194, t195, t196, t197, t198, t199, t200, t201, t202, t203, t204, t205, t206, t207, t208, t209, t210, t211, t212, t213, t214, t215, t216, t217, t218, t219, t220, t221, t222, t223, t224, t225, t226, t227, t228, t229, t230, t231, t232, t233, t234, t235, t236, t237, t238, t239, t240, t241, t242, t243, t244, t245, t246, t247, t248, t249, t250, t251, t252, t253, t254, t255, t256, t257, t258, t259, t260, t261, t262, t263, c264, c265, c266, c267, c268, c269, c270, c271, c272, c273, c274, c275, c276, c277, c278, c279, c280, c281, c282, c283, c284, c285, c286, c287, c288, c289, c290, c291, c292, c293, c294, c295, c296, c297, c298, c299, c300, c301, c302, c303, c304, c305, c306, c307, c308, c309, c310, c311, c312, c313, c314, c315, c316, c317, c318, c319, c320, c321, c322, c323, c324, c325, c326, c327, c328, c329, c330, c331, c332, c333, c334, c335, c336, c337, c338, c339, c340, c341, c342, c343, c344, c345, c346, c347, c348, c349, c350, c351, c352, c353, c354, c355, c356, c357, c358, c359, c360, c361, c362, c363, c364, c365, c366, c367, c368, c369, c370, c371, c372, c373, c374, c375, c376, c377, c378, c379, c380, c381, c382, c383, c384], []⟩ wr) Q) ⟨#[c0, c1, c2, c3, c4, c5, c6, c7, c8, c9, .pointer (some ⟨bb, 0, none⟩), vD, vN, vS, vA, c15, t16, t17, t18, t19, t20, t21, t22, t23, c24, t25, t26, t27, t28, t29, t30, c31, c32, c33, c34, c35, c36, c37, c38, c39, c40, c41, c42, c43, c44, c45, c46, c47, c48, c49, c50, c51, c52, c53, c54, c55, c56, c57, c58, c59, c60, c61, c62, c63, c64, c65, c66, c67, c68, c69, c70, c71, c72, .slice (some ⟨b0, o0, none⟩) n cap0, .int .i64 (n : Int), .int .i64 (es.length : Int), t76, t77, t78, t79, t80, t81, t82, t83, t84, t85, t86, t87, t88, t89, t90, t91, t92, t93, t94, t95, t96, t97, t98, t99, t100, t101, t102, t103, t104, t105, t106, t107, t108, t109, t110, t111, t112, t113, t114, t115, t116, t117, t118, t119, t120, t121, t122, t123, t124, t125, t126, t127, t128, t129, t130, t131, t132, t133, t134, t135, t136, t137, t138, t139, t140, t141, t142, t143, t144, t145, t146, t147, t148, t149, t150, t151, t152, t153, t154, t155, t156, t157, t158, t159, t160, t161, t162, t163, t164, t165, t166, t167, t168, t169, t170, t171, t172, t173, t174, t175, t176, t177, t178, t179, t180, t181, t182, t183, t184, t185, t186, t187, t188, t189, t190, t191, t192, t193, t194, t195, t196, t197, t198, t199, t200, t201, t202, t203, t204, t205, t206, t207, t208, t209, t210, t211, t212, t213, t214, t215, t216, t217, t218, t219, t220, t221, t222, t223, t224, t225, t226, t227, t228, t229, t230, t231, t232, t233, t234, t235, t236, t237, t238, t239, t240, t241, t242, t243, t244, t245, t246, t247, t248, t249, t250, t251, t252, t253, t254, t255, t256, t257, t258, t259, t260, t261, t262, t263, c264, c265, c266, c267, c268, c269, c270, c271, c272, c273, c274, c275, c276, c277, c278, c279, c280, c281, c282, c283, c284, c285, c286, c287, c288, c289, c290, c291, c292, c293, c294, c295, c296, c297, c298, c299, c300, c301, c302, c303, c304, c305, c306, c307, c308, c309, c310, c311, c312, c313, c314, c315, c316, c317, c318, c319, c320, c321, c322, c323, c324, c325, c326, c327, c328, c329, c330, c331, c332, c333, c334, c335, c336, c337, c338, c339, c340, c341, c342, c343, c344, c345, c346, c347, c348, c349, c350, c351, c352, c353, c354, c355, c356, c357, c358, c359, c360, c361, c362, c363, c364, c365, c366, c367, c368, c369, c370, c371, c372, c373, c374, c375, c376, c377, c378, c379, c380, c381, c382, c383, c384], []⟩ wr := by
  conv => arg 2; whnf
  obtain ⟨i28, hi28, hz28, hs28, hb28⟩ := info_parts Yba.info28
  obtain ⟨i29, hi29, hz29, hs29, hb29⟩ := info_parts Yba.info29
  obtain ⟨i30, hi30, hz30, hs30, hb30⟩ := info_parts Yba.info30
  obtain ⟨i9, hi9, hz9, hs9, hb9⟩ := info_parts Yba.info9
  have helt' : (es.length : Int) < (n : Int) := by omega
  have q0 : wr.cell? ⟨b0, o0 + es.length * 3, none⟩ = some (.int .u8 (nm es.length)) := (M.bel.cell (p := ⟨b0, o0 + es.length * 3, none⟩) hI.lt).trans (hI.c0 _ helt)
  have q1 : wr.cell? ⟨b0, o0 + es.length * 3 + 1, none⟩ = some (.int .u8 (kd es.length)) := (M.bel.cell (p := ⟨b0, o0 + es.length * 3 + 1, none⟩) hI.lt).trans (hI.c1 _ helt)
  have q2 : wr.cell? ⟨b0, o0 + es.length * 3 + 1 + 1, none⟩ = some (iv es.length) := (M.bel.cell (p := ⟨b0, o0 + es.length * 3 + 2, none⟩) hI.lt).trans (hI.c2 _ helt)
  obtain ⟨ia, ic, hiv, hin⟩ := hI.sl _ helt
  rw [hiv] at q2
  have hnb := hI.nb _ helt
  have hkb := hI.kb _ helt
  have hile := hall _ helt
  generalize nm es.length = NM at q0 hnb
  generalize kd es.length = KD at q1 hkb hk5
  generalize il es.length = IL at q2 hin hile
  have HIN := hideP hin
  clear hiv hin hI hall
  have hbc : wr.cell? ⟨bb, 3, none⟩ = some vB := by rw [M.hb.cell]; rfl
  have lbb := M.hb.lt
  have lbb1 : bb < wr.heap.size + 1 := by omega
  have lbb2 : bb < wr.heap.size + 1 + 1 := by omega
  have lbb3 : bb < wr.heap.size + 1 + 1 + 1 := by omega
  have lbb4 : bb < wr.heap.size + 1 + 1 + 1 + 1 := by omega
  have hwN := M.bel.size
  have hol : (outs es).length ≤ es.length := List.length_filter_le _ _
  go_wp2_with fail
  refine (name_any NM _ hnb.1 hnb.2).mono ?_
  rintro e1 w' ⟨rfl, rfl⟩
  have hnk : (NM % 7).toNat < 7 := by omega
  generalize (NM % 7).toNat = NK at hnk
  go_wp2_with (first | (at_builtin; refine wpList_append_own_at _ rfl _ _ 37 rfl w.heap.size 28 i28 (.pointer none) 1 8 Yba.underlying37 hi28 hz28 hs28 hb28 rfl (by decide) _ _ _ rfl ((((((M.hB.1.alloc _).alloc _).alloc _).alloc _).alloc _).alloc _) _ 1 1 [ptr (wr.heap.size + 1)] rfl rfl ?c1 (one_cell' _ rfl) ?c3 ?c4 ?c5 ?_))
  case c1 => exact one_new _ _ _ _ (by first | rfl | simp)
  case c3 => unfold maxLen; simp; omega
  case c4 => simp; omega
  case c5 => simp; omega
  intro v' w1 hown' hgrow _ hat
  obtain ⟨va, vc, hv⟩ := ownsRow_slice hown'
  subst hv
  obtain ⟨R3, M3⟩ := ((M.step rfl (Step.allocs R wr [_, defObj NK 56 _, _, _, arrObj (.slice _ 1 _)]) (by simp)).addEnt (ent2 R _ wr _ _ _ _ _ NK (wr.heap.size + 1) (wr.heap.size + 1 + 1 + 1 + 1) hnk rfl rfl)).pushB rfl hown' hgrow hat (by simp [allocs_size]) (by simp)
  have f3 := M3.hb.frozen 3
  have c3' : w1.cell? ⟨bb, 3, none⟩ = some vB := by rw [M3.hb.cell]; rfl
  have HM := hideP (M3.store rfl (.slice va (es.length + 1) vc))
  clear M3 M hown' hgrow hat
  go_wp2_with fail
  refine ⟨?_, by simp [mu3, intOf]; omega⟩
  unfold L3
  exact ⟨_, _, _, _, _, _, _, _, _, _, _, _, _, _, _, _, _, _, _, _, _, _, _, _, _, _, _, _, _, _, _, _, _, _, _, _, _, _, _, _, _, _, _, _, _, _, _, _, _, _, _, _, _, _, _, _, _, _, _, _, _, _, _, _, _, _, _, _, _, _, _, _, _, _, _, _, _, _, _, _, _, _, _, _, _, _, _, _, _, _, _, _, _, _, _, _, _, _, _, _, _, _, _, _, _, _, _, _, _, _, _, _, _, _, _, _, _, _, _, _, _, _, _, _, _, _, _, _, _, _, _, _, _, _, _, _, _, _, _, _, _, _, _, _, _, _, _, _, _, _, _, _, _, _, _, _, _, _, _, _, _, _, _, _, _, _, _, _, _, _, _, _, _, _, _, _, _, _, _, _, _, _, _, _, _, _, _, _, _, _, _, _, _, _, _, _, _, _, _, _, _, _, _, _, _, _, _, R3, es ++ [⟨NK, 2, wr.heap.size + 1, wr.heap.size + 1 + 1 + 1 + 1, noSlice, []⟩], _, by simp; omega, by simp, main_no rfl HM.out, rfl⟩
end Go.Proofs.Ybulkbegy
