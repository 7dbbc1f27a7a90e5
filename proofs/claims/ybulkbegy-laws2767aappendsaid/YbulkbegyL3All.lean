/-
  'LawS2767AAppend': the main loop. (By a program of ours, off the function's own slots.)
-/
import Derived.Test.YbulkbegyL3K0
import Derived.Test.YbulkbegyL3K1
import Derived.Test.YbulkbegyL3K2
import Derived.Test.YbulkbegyL3K3
import Derived.Test.YbulkbegyL3K4
namespace Go.Proofs.Ybulkbegy
open Go.RowKit
set_option linter.unusedVariables false
set_option linter.unusedSimpArgs false

set_option maxRecDepth 1000000 in
/-- Where the loop is left, the entries' slice any. -/
def E3a (w : World) (p n : Nat) (ea : Option Addr) (cap0 pb bb : Nat) (bs : List Nat) (vL : Value) (c0 c1 c2 c3 c4 c5 c6 c7 c8 c9 c15 c24 c31 c32 c33 c34 c35 c36 c37 c38 c39 c40 c41 c42 c43 c44 c45 c46 c47 c48 c49 c50 c51 c52 c53 c54 c55 c56 c57 c58 c59 c60 c61 c62 c63 c64 c65 c66 c67 c68 c69 c70 c71 c72 c264 c265 c266 c267 c268 c269 c270 c271 c272 c273 c274 c275 c276 c277 c278 c279 c280 c281 c282 c283 c284 c285 c286 c287 c288 c289 c290 c291 c292 c293 c294 c295 c296 c297 c298 c299 c300 c301 c302 c303 c304 c305 c306 c307 c308 c309 c310 c311 c312 c313 c314 c315 c316 c317 c318 c319 c320 c321 c322 c323 c324 c325 c326 c327 c328 c329 c330 c331 c332 c333 c334 c335 c336 c337 c338 c339 c340 c341 c342 c343 c344 c345 c346 c347 c348 c349 c350 c351 c352 c353 c354 c355 c356 c357 c358 c359 c360 c361 c362 c363 c364 c365 c366 c367 c368 c369 c370 c371 c372 c373 c374 c375 c376 c377 c378 c379 c380 c381 c382 c383 c384 : Value) (a : Act) (X : World) : Prop :=
  ∃ t11 t12 t13 t14 t16 t17 t18 t19 t20 t21 t22 t23 t25 t26 t27 t28 t29 t30 t75 t76 t77 t78 t79 t80 t81 t82 t83 t84 t85 t86 t87 t88 t89 t90 t91 t92 t93 t94 t95 t96 t97 t98 t99 t100 t101 t102 t103 t104 t105 t106 t107 t108 t109 t110 t111 t112 t113 t114 t115 t116 t117 t118 t119 t120 t121 t122 t123 t124 t125 t126 t127 t128 t129 t130 t131 t132 t133 t134 t135 t136 t137 t138 t139 t140 t141 t142 t143 t144 t145 t146 t147 t148 t149 t150 t151 t152 t153 t154 t155 t156 t157 t158 t159 t160 t161 t162 t163 t164 t165 t166 t167 t168 t169 t170 t171 t172 t173 t174 t175 t176 t177 t178 t179 t180 t181 t182 t183 t184 t185 t186 t187 t188 t189 t190 t191 t192 t193 t194 t195 t196 t197 t198 t199 t200 t201 t202 t203 t204 t205 t206 t207 t208 t209 t210 t211 t212 t213 t214 t215 t216 t217 t218 t219 t220 t221 t222 t223 t224 t225 t226 t227 t228 t229 t230 t231 t232 t233 t234 t235 t236 t237 t238 t239 t240 t241 t242 t243 t244 t245 t246 t247 t248 t249 t250 t251 t252 t253 t254 t255 t256 t257 t258 t259 t260 t261 t262 t263 : Value, ∃ (R : Nat → Nat) (es : List Ent) (vB : Value), es.length = n ∧ t75 = .int .i64 (n : Int) ∧ MainRel w.heap.size w p bs vL pb bb R es vB t11 t12 t13 t14 X ∧
    a = ⟨#[c0, c1, c2, c3, c4, c5, c6, c7, c8, c9, .pointer (some ⟨bb, 0, none⟩), t11, t12, t13, t14, c15, t16, t17, t18, t19, t20, t21, t22, t23, c24, t25, t26, t27, t28, t29, t30, c31, c32, c33, c34, c35, c36, c37, c38, c39, c40, c41, c42, c43, c44, c45, c46, c47, c48, c49, c50, c51, c52, c53, c54, c55, c56, c57, c58, c59, c60, c61, c62, c63, c64, c65, c66, c67, c68, c69, c70, c71, c72, .slice ea n cap0, .int .i64 (n : Int), t75, t76, t77, t78, t79, t80, t81, t82, t83, t84, t85, t86, t87, t88, t89, t90, t91, t92, t93, t94, t95, t96, t97, t98, t99, t100, t101, t102, t103, t104, t105, t106, t107, t108, t109, t110, t111, t112, t113, t114, t115, t116, t117, t118, t119, t120, t121, t122, t123, t124, t125, t126, t127, t128, t129, t130, t131, t132, t133, t134, t135, t136, t137, t138, t139, t140, t141, t142, t143, t144, t145, t146, t147, t148, t149, t150, t151, t152, t153, t154, t155, t156, t157, t158, t159, t160, t161, t162, t163, t164, t165, t166, t167, t168, t169, t170, t171, t172, t173, t174, t175, t176, t177, t178, t179, t180, t181, t182, t183, t184, t185, t186, t187, t188, t189, t190, t191, t192, t193, t194, t195, t196, t197, t198, t199, t200, t201, t202, t203, t204, t205, t206, t207, t208, t209, t210, t211, t212, t213, t214, t215, t216, t217, t218, t219, t220, t221, t222, t223, t224, t225, t226, t227, t228, t229, t230, t231, t232, t233, t234, t235, t236, t237, t238, t239, t240, t241, t242, t243, t244, t245, t246, t247, t248, t249, t250, t251, t252, t253, t254, t255, t256, t257, t258, t259, t260, t261, t262, t263, c264, c265, c266, c267, c268, c269, c270, c271, c272, c273, c274, c275, c276, c277, c278, c279, c280, c281, c282, c283, c284, c285, c286, c287, c288, c289, c290, c291, c292, c293, c294, c295, c296, c297, c298, c299, c300, c301, c302, c303, c304, c305, c306, c307, c308, c309, c310, c311, c312, c313, c314, c315, c316, c317, c318, c319, c320, c321, c322, c323, c324, c325, c326, c327, c328, c329, c330, c331, c332, c333, c334, c335, c336, c337, c338, c339, c340, c341, c342, c343, c344, c345, c346, c347, c348, c349, c350, c351, c352, c353, c354, c355, c356, c357, c358, c359, c360, c361, c362, c363, c364, c365, c366, c367, c368, c369, c370, c371, c372, c373, c374, c375, c376, c377, c378, c379, c380, c381, c382, c383, c384], []⟩

set_option maxRecDepth 1000000 in
set_option maxHeartbeats 4000000 in
theorem main_exit (w : World) (p n : Nat) (ea : Option Addr) (cap0 pb bb : Nat) (bs : List Nat) (vL : Value) (c0 c1 c2 c3 c4 c5 c6 c7 c8 c9 c15 c24 c31 c32 c33 c34 c35 c36 c37 c38 c39 c40 c41 c42 c43 c44 c45 c46 c47 c48 c49 c50 c51 c52 c53 c54 c55 c56 c57 c58 c59 c60 c61 c62 c63 c64 c65 c66 c67 c68 c69 c70 c71 c72 c264 c265 c266 c267 c268 c269 c270 c271 c272 c273 c274 c275 c276 c277 c278 c279 c280 c281 c282 c283 c284 c285 c286 c287 c288 c289 c290 c291 c292 c293 c294 c295 c296 c297 c298 c299 c300 c301 c302 c303 c304 c305 c306 c307 c308 c309 c310 c311 c312 c313 c314 c315 c316 c317 c318 c319 c320 c321 c322 c323 c324 c325 c326 c327 c328 c329 c330 c331 c332 c333 c334 c335 c336 c337 c338 c339 c340 c341 c342 c343 c344 c345 c346 c347 c348 c349 c350 c351 c352 c353 c354 c355 c356 c357 c358 c359 c360 c361 c362 c363 c364 c365 c366 c367 c368 c369 c370 c371 c372 c373 c374 c375 c376 c377 c378 c379 c380 c381 c382 c383 c384 : Value) (t11 t12 t13 t14 t16 t17 t18 t19 t20 t21 t22 t23 t25 t26 t27 t28 t29 t30 t76 t77 t78 t79 t80 t81 t82 t83 t84 t85 t86 t87 t88 t89 t90 t91 t92 t93 t94 t95 t96 t97 t98 t99 t100 t101 t102 t103 t104 t105 t106 t107 t108 t109 t110 t111 t112 t113 t114 t115 t116 t117 t118 t119 t120 t121 t122 t123 t124 t125 t126 t127 t128 t129 t130 t131 t132 t133 t134 t135 t136 t137 t138 t139 t140 t141 t142 t143 t144 t145 t146 t147 t148 t149 t150 t151 t152 t153 t154 t155 t156 t157 t158 t159 t160 t161 t162 t163 t164 t165 t166 t167 t168 t169 t170 t171 t172 t173 t174 t175 t176 t177 t178 t179 t180 t181 t182 t183 t184 t185 t186 t187 t188 t189 t190 t191 t192 t193 t194 t195 t196 t197 t198 t199 t200 t201 t202 t203 t204 t205 t206 t207 t208 t209 t210 t211 t212 t213 t214 t215 t216 t217 t218 t219 t220 t221 t222 t223 t224 t225 t226 t227 t228 t229 t230 t231 t232 t233 t234 t235 t236 t237 t238 t239 t240 t241 t242 t243 t244 t245 t246 t247 t248 t249 t250 t251 t252 t253 t254 t255 t256 t257 t258 t259 t260 t261 t262 t263 : Value) (R : Nat → Nat) (es : List Ent) (vB : Value) (wr : World) (M : MainRel w.heap.size w p bs vL pb bb R es vB t11 t12 t13 t14 wr) (K : Act → World → Prop) (Q : Exit → Act → World → Prop) (hlen : es.length = n)
    (hexit : ∀ a' w', E3a w p n ea cap0 pb bb bs vL c0 c1 c2 c3 c4 c5 c6 c7 c8 c9 c15 c24 c31 c32 c33 c34 c35 c36 c37 c38 c39 c40 c41 c42 c43 c44 c45 c46 c47 c48 c49 c50 c51 c52 c53 c54 c55 c56 c57 c58 c59 c60 c61 c62 c63 c64 c65 c66 c67 c68 c69 c70 c71 c72 c264 c265 c266 c267 c268 c269 c270 c271 c272 c273 c274 c275 c276 c277 c278 c279 c280 c281 c282 c283 c284 c285 c286 c287 c288 c289 c290 c291 c292 c293 c294 c295 c296 c297 c298 c299 c300 c301 c302 c303 c304 c305 c306 c307 c308 c309 c310 c311 c312 c313 c314 c315 c316 c317 c318 c319 c320 c321 c322 c323 c324 c325 c326 c327 c328 c329 c330 c331 c332 c333 c334 c335 c336 c337 c338 c339 c340 c341 c342 c343 c344 c345 c346 c347 c348 c349 c350 c351 c352 c353 c354 c355 c356 c357 c358 c359 c360 c361 c362 c363 c364 c365 c366 c367 c368 c369 c370 c371 c372 c373 c374 c375 c376 c377 c378 c379 c380 c381 c382 c383 c384 a' w' → Q (.exit 4) a' w') :
    Code.wp Yba.prog ((((Yba.f3.body.map loopsOf).getD [])[2]?).getD .skip) (Exit.then K Q) ⟨#[c0, c1, c2, c3, c4, c5, c6, c7, c8, c9, .pointer (some ⟨bb, 0, none⟩), t11, t12, t13, t14, c15, t16, t17, t18, t19, t20, t21, t22, t23, c24, t25, t26, t27, t28, t29, t30, c31, c32, c33, c34, c35, c36, c37, c38, c39, c40, c41, c42, c43, c44, c45, c46, c47, c48, c49, c50, c51, c52, c53, c54, c55, c56, c57, c58, c59, c60, c61, c62, c63, c64, c65, c66, c67, c68, c69, c70, c71, c72, .slice ea n cap0, .int .i64 (n : Int), .int .i64 (n : Int), t76, t77, t78, t79, t80, t81, t82, t83, t84, t85, t86, t87, t88, t89, t90, t91, t92, t93, t94, t95, t96, t97, t98, t99, t100, t101, t102, t103, t104, t105, t106, t107, t108, t109, t110, t111, t112, t113, t114, t115, t116, t117, t118, t119, t120, t121, t122, t123, t124, t125, t126, t127, t128, t129, t130, t131, t132, t133, t134, t135, t136, t137, t138, t139, t140, t141, t142, t143, t144, t145, t146, t147, t148, t149, t150, t151, t152, t153, t154, t155, t156, t157, t158, t159, t160, t161, t162, t163, t164, t165, t166, t167, t168, t169, t170, t171, t172, t173, t174, t175, t176, t177, t178, t179, t180, t181, t182, t183, t184, t185, t186, t187, t188, t189, t190, t191, t192, t193, t194, t195, t196, t197, t198, t199, t200, t201, t202, t203, t204, t205, t206, t207, t208, t209, t210, t211, t212, t213, t214, t215, t216, t217, t218, t219, t220, t221, t222, t223, t224, t225, t226, t227, t228, t229, t230, t231, t232, t233, t234, t235, t236, t237, t238, t239, t240, t241, t242, t243, t244, t245, t246, t247, t248, t249, t250, t251, t252, t253, t254, t255, t256, t257, t258, t259, t260, t261, t262, t263, c264, c265, c266, c267, c268, c269, c270, c271, c272, c273, c274, c275, c276, c277, c278, c279, c280, c281, c282, c283, c284, c285, c286, c287, c288, c289, c290, c291, c292, c293, c294, c295, c296, c297, c298, c299, c300, c301, c302, c303, c304, c305, c306, c307, c308, c309, c310, c311, c312, c313, c314, c315, c316, c317, c318, c319, c320, c321, c322, c323, c324, c325, c326, c327, c328, c329, c330, c331, c332, c333, c334, c335, c336, c337, c338, c339, c340, c341, c342, c343, c344, c345, c346, c347, c348, c349, c350, c351, c352, c353, c354, c355, c356, c357, c358, c359, c360, c361, c362, c363, c364, c365, c366, c367, c368, c369, c370, c371, c372, c373, c374, c375, c376, c377, c378, c379, c380, c381, c382, c383, c384], []⟩ wr := by
  conv => arg 2; whnf
  have HE := hideP hexit
  have HL := hideP hlen
  clear hexit hlen
  go_wp2_with fail
  refine HE.out _ _ ?_
  unfold E3a
  exact ⟨_, _, _, _, _, _, _, _, _, _, _, _, _, _, _, _, _, _, _, _, _, _, _, _, _, _, _, _, _, _, _, _, _, _, _, _, _, _, _, _, _, _, _, _, _, _, _, _, _, _, _, _, _, _, _, _, _, _, _, _, _, _, _, _, _, _, _, _, _, _, _, _, _, _, _, _, _, _, _, _, _, _, _, _, _, _, _, _, _, _, _, _, _, _, _, _, _, _, _, _, _, _, _, _, _, _, _, _, _, _, _, _, _, _, _, _, _, _, _, _, _, _, _, _, _, _, _, _, _, _, _, _, _, _, _, _, _, _, _, _, _, _, _, _, _, _, _, _, _, _, _, _, _, _, _, _, _, _, _, _, _, _, _, _, _, _, _, _, _, _, _, _, _, _, _, _, _, _, _, _, _, _, _, _, _, _, _, _, _, _, _, _, _, _, _, _, _, _, _, _, _, _, _, _, _, _, _, R, es, vB, HL.out, rfl, M, rfl⟩

set_option maxRecDepth 1000000 in
set_option maxHeartbeats 4000000 in
theorem loop3 (w : World) (p n b0 o0 cap0 pb bb : Nat) (bs : List Nat) (vL : Value) (nm kd : Nat → Int) (iv : Nat → Value) (il : Nat → Nat) (hI : In w b0 o0 n nm kd iv il) (hall : ∀ i, i < n → il i ≤ 256) (hn : n ≤ 256) (c0 c1 c2 c3 c4 c5 c6 c7 c8 c9 c15 c24 c31 c32 c33 c34 c35 c36 c37 c38 c39 c40 c41 c42 c43 c44 c45 c46 c47 c48 c49 c50 c51 c52 c53 c54 c55 c56 c57 c58 c59 c60 c61 c62 c63 c64 c65 c66 c67 c68 c69 c70 c71 c72 c264 c265 c266 c267 c268 c269 c270 c271 c272 c273 c274 c275 c276 c277 c278 c279 c280 c281 c282 c283 c284 c285 c286 c287 c288 c289 c290 c291 c292 c293 c294 c295 c296 c297 c298 c299 c300 c301 c302 c303 c304 c305 c306 c307 c308 c309 c310 c311 c312 c313 c314 c315 c316 c317 c318 c319 c320 c321 c322 c323 c324 c325 c326 c327 c328 c329 c330 c331 c332 c333 c334 c335 c336 c337 c338 c339 c340 c341 c342 c343 c344 c345 c346 c347 c348 c349 c350 c351 c352 c353 c354 c355 c356 c357 c358 c359 c360 c361 c362 c363 c364 c365 c366 c367 c368 c369 c370 c371 c372 c373 c374 c375 c376 c377 c378 c379 c380 c381 c382 c383 c384 : Value)
    (Q : Exit → Act → World → Prop) (hexit : ∀ a' w', E3a w p n (some ⟨b0, o0, none⟩) cap0 pb bb bs vL c0 c1 c2 c3 c4 c5 c6 c7 c8 c9 c15 c24 c31 c32 c33 c34 c35 c36 c37 c38 c39 c40 c41 c42 c43 c44 c45 c46 c47 c48 c49 c50 c51 c52 c53 c54 c55 c56 c57 c58 c59 c60 c61 c62 c63 c64 c65 c66 c67 c68 c69 c70 c71 c72 c264 c265 c266 c267 c268 c269 c270 c271 c272 c273 c274 c275 c276 c277 c278 c279 c280 c281 c282 c283 c284 c285 c286 c287 c288 c289 c290 c291 c292 c293 c294 c295 c296 c297 c298 c299 c300 c301 c302 c303 c304 c305 c306 c307 c308 c309 c310 c311 c312 c313 c314 c315 c316 c317 c318 c319 c320 c321 c322 c323 c324 c325 c326 c327 c328 c329 c330 c331 c332 c333 c334 c335 c336 c337 c338 c339 c340 c341 c342 c343 c344 c345 c346 c347 c348 c349 c350 c351 c352 c353 c354 c355 c356 c357 c358 c359 c360 c361 c362 c363 c364 c365 c366 c367 c368 c369 c370 c371 c372 c373 c374 c375 c376 c377 c378 c379 c380 c381 c382 c383 c384 a' w' → Q (.exit 4) a' w') (a0 : Act) (w0 : World) (h0 : L3 w p n b0 o0 cap0 pb bb bs vL c0 c1 c2 c3 c4 c5 c6 c7 c8 c9 c15 c24 c31 c32 c33 c34 c35 c36 c37 c38 c39 c40 c41 c42 c43 c44 c45 c46 c47 c48 c49 c50 c51 c52 c53 c54 c55 c56 c57 c58 c59 c60 c61 c62 c63 c64 c65 c66 c67 c68 c69 c70 c71 c72 c264 c265 c266 c267 c268 c269 c270 c271 c272 c273 c274 c275 c276 c277 c278 c279 c280 c281 c282 c283 c284 c285 c286 c287 c288 c289 c290 c291 c292 c293 c294 c295 c296 c297 c298 c299 c300 c301 c302 c303 c304 c305 c306 c307 c308 c309 c310 c311 c312 c313 c314 c315 c316 c317 c318 c319 c320 c321 c322 c323 c324 c325 c326 c327 c328 c329 c330 c331 c332 c333 c334 c335 c336 c337 c338 c339 c340 c341 c342 c343 c344 c345 c346 c347 c348 c349 c350 c351 c352 c353 c354 c355 c356 c357 c358 c359 c360 c361 c362 c363 c364 c365 c366 c367 c368 c369 c370 c371 c372 c373 c374 c375 c376 c377 c378 c379 c380 c381 c382 c383 c384 a0 w0) :
    Code.wp Yba.prog (.loop ((((Yba.f3.body.map loopsOf).getD [])[2]?).getD .skip)) Q a0 w0 := by
  refine wp_loop (L3 w p n b0 o0 cap0 pb bb bs vL c0 c1 c2 c3 c4 c5 c6 c7 c8 c9 c15 c24 c31 c32 c33 c34 c35 c36 c37 c38 c39 c40 c41 c42 c43 c44 c45 c46 c47 c48 c49 c50 c51 c52 c53 c54 c55 c56 c57 c58 c59 c60 c61 c62 c63 c64 c65 c66 c67 c68 c69 c70 c71 c72 c264 c265 c266 c267 c268 c269 c270 c271 c272 c273 c274 c275 c276 c277 c278 c279 c280 c281 c282 c283 c284 c285 c286 c287 c288 c289 c290 c291 c292 c293 c294 c295 c296 c297 c298 c299 c300 c301 c302 c303 c304 c305 c306 c307 c308 c309 c310 c311 c312 c313 c314 c315 c316 c317 c318 c319 c320 c321 c322 c323 c324 c325 c326 c327 c328 c329 c330 c331 c332 c333 c334 c335 c336 c337 c338 c339 c340 c341 c342 c343 c344 c345 c346 c347 c348 c349 c350 c351 c352 c353 c354 c355 c356 c357 c358 c359 c360 c361 c362 c363 c364 c365 c366 c367 c368 c369 c370 c371 c372 c373 c374 c375 c376 c377 c378 c379 c380 c381 c382 c383 c384) (mu3 n) h0 ?_
  intro a X hL
  unfold L3 at hL
  obtain ⟨t11, hL⟩ := hL
  obtain ⟨t12, hL⟩ := hL
  obtain ⟨t13, hL⟩ := hL
  obtain ⟨t14, hL⟩ := hL
  obtain ⟨t16, hL⟩ := hL
  obtain ⟨t17, hL⟩ := hL
  obtain ⟨t18, hL⟩ := hL
  obtain ⟨t19, hL⟩ := hL
  obtain ⟨t20, hL⟩ := hL
  obtain ⟨t21, hL⟩ := hL
  obtain ⟨t22, hL⟩ := hL
  obtain ⟨t23, hL⟩ := hL
  obtain ⟨t25, hL⟩ := hL
  obtain ⟨t26, hL⟩ := hL
  obtain ⟨t27, hL⟩ := hL
  obtain ⟨t28, hL⟩ := hL
  obtain ⟨t29, hL⟩ := hL
  obtain ⟨t30, hL⟩ := hL
  obtain ⟨t75, hL⟩ := hL
  obtain ⟨t76, hL⟩ := hL
  obtain ⟨t77, hL⟩ := hL
  obtain ⟨t78, hL⟩ := hL
  obtain ⟨t79, hL⟩ := hL
  obtain ⟨t80, hL⟩ := hL
  obtain ⟨t81, hL⟩ := hL
  obtain ⟨t82, hL⟩ := hL
  obtain ⟨t83, hL⟩ := hL
  obtain ⟨t84, hL⟩ := hL
  obtain ⟨t85, hL⟩ := hL
  obtain ⟨t86, hL⟩ := hL
  obtain ⟨t87, hL⟩ := hL
  obtain ⟨t88, hL⟩ := hL
  obtain ⟨t89, hL⟩ := hL
  obtain ⟨t90, hL⟩ := hL
  obtain ⟨t91, hL⟩ := hL
  obtain ⟨t92, hL⟩ := hL
  obtain ⟨t93, hL⟩ := hL
  obtain ⟨t94, hL⟩ := hL
  obtain ⟨t95, hL⟩ := hL
  obtain ⟨t96, hL⟩ := hL
  obtain ⟨t97, hL⟩ := hL
  obtain ⟨t98, hL⟩ := hL
  obtain ⟨t99, hL⟩ := hL
  obtain ⟨t100, hL⟩ := hL
  obtain ⟨t101, hL⟩ := hL
  obtain ⟨t102, hL⟩ := hL
  obtain ⟨t103, hL⟩ := hL
  obtain ⟨t104, hL⟩ := hL
  obtain ⟨t105, hL⟩ := hL
  obtain ⟨t106, hL⟩ := hL
  obtain ⟨t107, hL⟩ := hL
  obtain ⟨t108, hL⟩ := hL
  obtain ⟨t109, hL⟩ := hL
  obtain ⟨t110, hL⟩ := hL
  obtain ⟨t111, hL⟩ := hL
  obtain ⟨t112, hL⟩ := hL
  obtain ⟨t113, hL⟩ := hL
  obtain ⟨t114, hL⟩ := hL
  obtain ⟨t115, hL⟩ := hL
  obtain ⟨t116, hL⟩ := hL
  obtain ⟨t117, hL⟩ := hL
  obtain ⟨t118, hL⟩ := hL
  obtain ⟨t119, hL⟩ := hL
  obtain ⟨t120, hL⟩ := hL
  obtain ⟨t121, hL⟩ := hL
  obtain ⟨t122, hL⟩ := hL
  obtain ⟨t123, hL⟩ := hL
  obtain ⟨t124, hL⟩ := hL
  obtain ⟨t125, hL⟩ := hL
  obtain ⟨t126, hL⟩ := hL
  obtain ⟨t127, hL⟩ := hL
  obtain ⟨t128, hL⟩ := hL
  obtain ⟨t129, hL⟩ := hL
  obtain ⟨t130, hL⟩ := hL
  obtain ⟨t131, hL⟩ := hL
  obtain ⟨t132, hL⟩ := hL
  obtain ⟨t133, hL⟩ := hL
  obtain ⟨t134, hL⟩ := hL
  obtain ⟨t135, hL⟩ := hL
  obtain ⟨t136, hL⟩ := hL
  obtain ⟨t137, hL⟩ := hL
  obtain ⟨t138, hL⟩ := hL
  obtain ⟨t139, hL⟩ := hL
  obtain ⟨t140, hL⟩ := hL
  obtain ⟨t141, hL⟩ := hL
  obtain ⟨t142, hL⟩ := hL
  obtain ⟨t143, hL⟩ := hL
  obtain ⟨t144, hL⟩ := hL
  obtain ⟨t145, hL⟩ := hL
  obtain ⟨t146, hL⟩ := hL
  obtain ⟨t147, hL⟩ := hL
  obtain ⟨t148, hL⟩ := hL
  obtain ⟨t149, hL⟩ := hL
  obtain ⟨t150, hL⟩ := hL
  obtain ⟨t151, hL⟩ := hL
  obtain ⟨t152, hL⟩ := hL
  obtain ⟨t153, hL⟩ := hL
  obtain ⟨t154, hL⟩ := hL
  obtain ⟨t155, hL⟩ := hL
  obtain ⟨t156, hL⟩ := hL
  obtain ⟨t157, hL⟩ := hL
  obtain ⟨t158, hL⟩ := hL
  obtain ⟨t159, hL⟩ := hL
  obtain ⟨t160, hL⟩ := hL
  obtain ⟨t161, hL⟩ := hL
  obtain ⟨t162, hL⟩ := hL
  obtain ⟨t163, hL⟩ := hL
  obtain ⟨t164, hL⟩ := hL
  obtain ⟨t165, hL⟩ := hL
  obtain ⟨t166, hL⟩ := hL
  obtain ⟨t167, hL⟩ := hL
  obtain ⟨t168, hL⟩ := hL
  obtain ⟨t169, hL⟩ := hL
  obtain ⟨t170, hL⟩ := hL
  obtain ⟨t171, hL⟩ := hL
  obtain ⟨t172, hL⟩ := hL
  obtain ⟨t173, hL⟩ := hL
  obtain ⟨t174, hL⟩ := hL
  obtain ⟨t175, hL⟩ := hL
  obtain ⟨t176, hL⟩ := hL
  obtain ⟨t177, hL⟩ := hL
  obtain ⟨t178, hL⟩ := hL
  obtain ⟨t179, hL⟩ := hL
  obtain ⟨t180, hL⟩ := hL
  obtain ⟨t181, hL⟩ := hL
  obtain ⟨t182, hL⟩ := hL
  obtain ⟨t183, hL⟩ := hL
  obtain ⟨t184, hL⟩ := hL
  obtain ⟨t185, hL⟩ := hL
  obtain ⟨t186, hL⟩ := hL
  obtain ⟨t187, hL⟩ := hL
  obtain ⟨t188, hL⟩ := hL
  obtain ⟨t189, hL⟩ := hL
  obtain ⟨t190, hL⟩ := hL
  obtain ⟨t191, hL⟩ := hL
  obtain ⟨t192, hL⟩ := hL
  obtain ⟨t193, hL⟩ := hL
  obtain ⟨t194, hL⟩ := hL
  obtain ⟨t195, hL⟩ := hL
  obtain ⟨t196, hL⟩ := hL
  obtain ⟨t197, hL⟩ := hL
  obtain ⟨t198, hL⟩ := hL
  obtain ⟨t199, hL⟩ := hL
  obtain ⟨t200, hL⟩ := hL
  obtain ⟨t201, hL⟩ := hL
  obtain ⟨t202, hL⟩ := hL
  obtain ⟨t203, hL⟩ := hL
  obtain ⟨t204, hL⟩ := hL
  obtain ⟨t205, hL⟩ := hL
  obtain ⟨t206, hL⟩ := hL
  obtain ⟨t207, hL⟩ := hL
  obtain ⟨t208, hL⟩ := hL
  obtain ⟨t209, hL⟩ := hL
  obtain ⟨t210, hL⟩ := hL
  obtain ⟨t211, hL⟩ := hL
  obtain ⟨t212, hL⟩ := hL
  obtain ⟨t213, hL⟩ := hL
  obtain ⟨t214, hL⟩ := hL
  obtain ⟨t215, hL⟩ := hL
  obtain ⟨t216, hL⟩ := hL
  obtain ⟨t217, hL⟩ := hL
  obtain ⟨t218, hL⟩ := hL
  obtain ⟨t219, hL⟩ := hL
  obtain ⟨t220, hL⟩ := hL
  obtain ⟨t221, hL⟩ := hL
  obtain ⟨t222, hL⟩ := hL
  obtain ⟨t223, hL⟩ := hL
  obtain ⟨t224, hL⟩ := hL
  obtain ⟨t225, hL⟩ := hL
  obtain ⟨t226, hL⟩ := hL
  obtain ⟨t227, hL⟩ := hL
  obtain ⟨t228, hL⟩ := hL
  obtain ⟨t229, hL⟩ := hL
  obtain ⟨t230, hL⟩ := hL
  obtain ⟨t231, hL⟩ := hL
  obtain ⟨t232, hL⟩ := hL
  obtain ⟨t233, hL⟩ := hL
  obtain ⟨t234, hL⟩ := hL
  obtain ⟨t235, hL⟩ := hL
  obtain ⟨t236, hL⟩ := hL
  obtain ⟨t237, hL⟩ := hL
  obtain ⟨t238, hL⟩ := hL
  obtain ⟨t239, hL⟩ := hL
  obtain ⟨t240, hL⟩ := hL
  obtain ⟨t241, hL⟩ := hL
  obtain ⟨t242, hL⟩ := hL
  obtain ⟨t243, hL⟩ := hL
  obtain ⟨t244, hL⟩ := hL
  obtain ⟨t245, hL⟩ := hL
  obtain ⟨t246, hL⟩ := hL
  obtain ⟨t247, hL⟩ := hL
  obtain ⟨t248, hL⟩ := hL
  obtain ⟨t249, hL⟩ := hL
  obtain ⟨t250, hL⟩ := hL
  obtain ⟨t251, hL⟩ := hL
  obtain ⟨t252, hL⟩ := hL
  obtain ⟨t253, hL⟩ := hL
  obtain ⟨t254, hL⟩ := hL
  obtain ⟨t255, hL⟩ := hL
  obtain ⟨t256, hL⟩ := hL
  obtain ⟨t257, hL⟩ := hL
  obtain ⟨t258, hL⟩ := hL
  obtain ⟨t259, hL⟩ := hL
  obtain ⟨t260, hL⟩ := hL
  obtain ⟨t261, hL⟩ := hL
  obtain ⟨t262, hL⟩ := hL
  obtain ⟨t263, hL⟩ := hL
  obtain ⟨R, es, vB, hle, h75, M, ha⟩ := hL
  subst h75 ha
  by_cases hlt : es.length < n
  · have hk : kd es.length % 5 = 0 ∨ kd es.length % 5 = 1 ∨ kd es.length % 5 = 2 ∨ kd es.length % 5 = 3 ∨ kd es.length % 5 = 4 := by omega
    rcases hk with hk5 | hk5 | hk5 | hk5 | hk5
    · exact round0 w p n b0 o0 cap0 pb bb bs vL nm kd iv il hI hall hn c0 c1 c2 c3 c4 c5 c6 c7 c8 c9 c15 c24 c31 c32 c33 c34 c35 c36 c37 c38 c39 c40 c41 c42 c43 c44 c45 c46 c47 c48 c49 c50 c51 c52 c53 c54 c55 c56 c57 c58 c59 c60 c61 c62 c63 c64 c65 c66 c67 c68 c69 c70 c71 c72 c264 c265 c266 c267 c268 c269 c270 c271 c272 c273 c274 c275 c276 c277 c278 c279 c280 c281 c282 c283 c284 c285 c286 c287 c288 c289 c290 c291 c292 c293 c294 c295 c296 c297 c298 c299 c300 c301 c302 c303 c304 c305 c306 c307 c308 c309 c310 c311 c312 c313 c314 c315 c316 c317 c318 c319 c320 c321 c322 c323 c324 c325 c326 c327 c328 c329 c330 c331 c332 c333 c334 c335 c336 c337 c338 c339 c340 c341 c342 c343 c344 c345 c346 c347 c348 c349 c350 c351 c352 c353 c354 c355 c356 c357 c358 c359 c360 c361 c362 c363 c364 c365 c366 c367 c368 c369 c370 c371 c372 c373 c374 c375 c376 c377 c378 c379 c380 c381 c382 c383 c384 t16 t17 t18 t19 t20 t21 t22 t23 t25 t26 t27 t28 t29 t30 t76 t77 t78 t79 t80 t81 t82 t83 t84 t85 t86 t87 t88 t89 t90 t91 t92 t93 t94 t95 t96 t97 t98 t99 t100 t101 t102 t103 t104 t105 t106 t107 t108 t109 t110 t111 t112 t113 t114 t115 t116 t117 t118 t119 t120 t121 t122 t123 t124 t125 t126 t127 t128 t129 t130 t131 t132 t133 t134 t135 t136 t137 t138 t139 t140 t141 t142 t143 t144 t145 t146 t147 t148 t149 t150 t151 t152 t153 t154 t155 t156 t157 t158 t159 t160 t161 t162 t163 t164 t165 t166 t167 t168 t169 t170 t171 t172 t173 t174 t175 t176 t177 t178 t179 t180 t181 t182 t183 t184 t185 t186 t187 t188 t189 t190 t191 t192 t193 t194 t195 t196 t197 t198 t199 t200 t201 t202 t203 t204 t205 t206 t207 t208 t209 t210 t211 t212 t213 t214 t215 t216 t217 t218 t219 t220 t221 t222 t223 t224 t225 t226 t227 t228 t229 t230 t231 t232 t233 t234 t235 t236 t237 t238 t239 t240 t241 t242 t243 t244 t245 t246 t247 t248 t249 t250 t251 t252 t253 t254 t255 t256 t257 t258 t259 t260 t261 t262 t263 R es vB t11 t12 t13 t14 X M Q hlt hk5
    · exact round1 w p n b0 o0 cap0 pb bb bs vL nm kd iv il hI hall hn c0 c1 c2 c3 c4 c5 c6 c7 c8 c9 c15 c24 c31 c32 c33 c34 c35 c36 c37 c38 c39 c40 c41 c42 c43 c44 c45 c46 c47 c48 c49 c50 c51 c52 c53 c54 c55 c56 c57 c58 c59 c60 c61 c62 c63 c64 c65 c66 c67 c68 c69 c70 c71 c72 c264 c265 c266 c267 c268 c269 c270 c271 c272 c273 c274 c275 c276 c277 c278 c279 c280 c281 c282 c283 c284 c285 c286 c287 c288 c289 c290 c291 c292 c293 c294 c295 c296 c297 c298 c299 c300 c301 c302 c303 c304 c305 c306 c307 c308 c309 c310 c311 c312 c313 c314 c315 c316 c317 c318 c319 c320 c321 c322 c323 c324 c325 c326 c327 c328 c329 c330 c331 c332 c333 c334 c335 c336 c337 c338 c339 c340 c341 c342 c343 c344 c345 c346 c347 c348 c349 c350 c351 c352 c353 c354 c355 c356 c357 c358 c359 c360 c361 c362 c363 c364 c365 c366 c367 c368 c369 c370 c371 c372 c373 c374 c375 c376 c377 c378 c379 c380 c381 c382 c383 c384 t16 t17 t18 t19 t20 t21 t22 t23 t25 t26 t27 t28 t29 t30 t76 t77 t78 t79 t80 t81 t82 t83 t84 t85 t86 t87 t88 t89 t90 t91 t92 t93 t94 t95 t96 t97 t98 t99 t100 t101 t102 t103 t104 t105 t106 t107 t108 t109 t110 t111 t112 t113 t114 t115 t116 t117 t118 t119 t120 t121 t122 t123 t124 t125 t126 t127 t128 t129 t130 t131 t132 t133 t134 t135 t136 t137 t138 t139 t140 t141 t142 t143 t144 t145 t146 t147 t148 t149 t150 t151 t152 t153 t154 t155 t156 t157 t158 t159 t160 t161 t162 t163 t164 t165 t166 t167 t168 t169 t170 t171 t172 t173 t174 t175 t176 t177 t178 t179 t180 t181 t182 t183 t184 t185 t186 t187 t188 t189 t190 t191 t192 t193 t194 t195 t196 t197 t198 t199 t200 t201 t202 t203 t204 t205 t206 t207 t208 t209 t210 t211 t212 t213 t214 t215 t216 t217 t218 t219 t220 t221 t222 t223 t224 t225 t226 t227 t228 t229 t230 t231 t232 t233 t234 t235 t236 t237 t238 t239 t240 t241 t242 t243 t244 t245 t246 t247 t248 t249 t250 t251 t252 t253 t254 t255 t256 t257 t258 t259 t260 t261 t262 t263 R es vB t11 t12 t13 t14 X M Q hlt hk5
    · exact round2 w p n b0 o0 cap0 pb bb bs vL nm kd iv il hI hall hn c0 c1 c2 c3 c4 c5 c6 c7 c8 c9 c15 c24 c31 c32 c33 c34 c35 c36 c37 c38 c39 c40 c41 c42 c43 c44 c45 c46 c47 c48 c49 c50 c51 c52 c53 c54 c55 c56 c57 c58 c59 c60 c61 c62 c63 c64 c65 c66 c67 c68 c69 c70 c71 c72 c264 c265 c266 c267 c268 c269 c270 c271 c272 c273 c274 c275 c276 c277 c278 c279 c280 c281 c282 c283 c284 c285 c286 c287 c288 c289 c290 c291 c292 c293 c294 c295 c296 c297 c298 c299 c300 c301 c302 c303 c304 c305 c306 c307 c308 c309 c310 c311 c312 c313 c314 c315 c316 c317 c318 c319 c320 c321 c322 c323 c324 c325 c326 c327 c328 c329 c330 c331 c332 c333 c334 c335 c336 c337 c338 c339 c340 c341 c342 c343 c344 c345 c346 c347 c348 c349 c350 c351 c352 c353 c354 c355 c356 c357 c358 c359 c360 c361 c362 c363 c364 c365 c366 c367 c368 c369 c370 c371 c372 c373 c374 c375 c376 c377 c378 c379 c380 c381 c382 c383 c384 t16 t17 t18 t19 t20 t21 t22 t23 t25 t26 t27 t28 t29 t30 t76 t77 t78 t79 t80 t81 t82 t83 t84 t85 t86 t87 t88 t89 t90 t91 t92 t93 t94 t95 t96 t97 t98 t99 t100 t101 t102 t103 t104 t105 t106 t107 t108 t109 t110 t111 t112 t113 t114 t115 t116 t117 t118 t119 t120 t121 t122 t123 t124 t125 t126 t127 t128 t129 t130 t131 t132 t133 t134 t135 t136 t137 t138 t139 t140 t141 t142 t143 t144 t145 t146 t147 t148 t149 t150 t151 t152 t153 t154 t155 t156 t157 t158 t159 t160 t161 t162 t163 t164 t165 t166 t167 t168 t169 t170 t171 t172 t173 t174 t175 t176 t177 t178 t179 t180 t181 t182 t183 t184 t185 t186 t187 t188 t189 t190 t191 t192 t193 t194 t195 t196 t197 t198 t199 t200 t201 t202 t203 t204 t205 t206 t207 t208 t209 t210 t211 t212 t213 t214 t215 t216 t217 t218 t219 t220 t221 t222 t223 t224 t225 t226 t227 t228 t229 t230 t231 t232 t233 t234 t235 t236 t237 t238 t239 t240 t241 t242 t243 t244 t245 t246 t247 t248 t249 t250 t251 t252 t253 t254 t255 t256 t257 t258 t259 t260 t261 t262 t263 R es vB t11 t12 t13 t14 X M Q hlt hk5
    · exact round3 w p n b0 o0 cap0 pb bb bs vL nm kd iv il hI hall hn c0 c1 c2 c3 c4 c5 c6 c7 c8 c9 c15 c24 c31 c32 c33 c34 c35 c36 c37 c38 c39 c40 c41 c42 c43 c44 c45 c46 c47 c48 c49 c50 c51 c52 c53 c54 c55 c56 c57 c58 c59 c60 c61 c62 c63 c64 c65 c66 c67 c68 c69 c70 c71 c72 c264 c265 c266 c267 c268 c269 c270 c271 c272 c273 c274 c275 c276 c277 c278 c279 c280 c281 c282 c283 c284 c285 c286 c287 c288 c289 c290 c291 c292 c293 c294 c295 c296 c297 c298 c299 c300 c301 c302 c303 c304 c305 c306 c307 c308 c309 c310 c311 c312 c313 c314 c315 c316 c317 c318 c319 c320 c321 c322 c323 c324 c325 c326 c327 c328 c329 c330 c331 c332 c333 c334 c335 c336 c337 c338 c339 c340 c341 c342 c343 c344 c345 c346 c347 c348 c349 c350 c351 c352 c353 c354 c355 c356 c357 c358 c359 c360 c361 c362 c363 c364 c365 c366 c367 c368 c369 c370 c371 c372 c373 c374 c375 c376 c377 c378 c379 c380 c381 c382 c383 c384 t16 t17 t18 t19 t20 t21 t22 t23 t25 t26 t27 t28 t29 t30 t76 t77 t78 t79 t80 t81 t82 t83 t84 t85 t86 t87 t88 t89 t90 t91 t92 t93 t94 t95 t96 t97 t98 t99 t100 t101 t102 t103 t104 t105 t106 t107 t108 t109 t110 t111 t112 t113 t114 t115 t116 t117 t118 t119 t120 t121 t122 t123 t124 t125 t126 t127 t128 t129 t130 t131 t132 t133 t134 t135 t136 t137 t138 t139 t140 t141 t142 t143 t144 t145 t146 t147 t148 t149 t150 t151 t152 t153 t154 t155 t156 t157 t158 t159 t160 t161 t162 t163 t164 t165 t166 t167 t168 t169 t170 t171 t172 t173 t174 t175 t176 t177 t178 t179 t180 t181 t182 t183 t184 t185 t186 t187 t188 t189 t190 t191 t192 t193 t194 t195 t196 t197 t198 t199 t200 t201 t202 t203 t204 t205 t206 t207 t208 t209 t210 t211 t212 t213 t214 t215 t216 t217 t218 t219 t220 t221 t222 t223 t224 t225 t226 t227 t228 t229 t230 t231 t232 t233 t234 t235 t236 t237 t238 t239 t240 t241 t242 t243 t244 t245 t246 t247 t248 t249 t250 t251 t252 t253 t254 t255 t256 t257 t258 t259 t260 t261 t262 t263 R es vB t11 t12 t13 t14 X M Q hlt hk5
    · exact round4 w p n b0 o0 cap0 pb bb bs vL nm kd iv il hI hall hn c0 c1 c2 c3 c4 c5 c6 c7 c8 c9 c15 c24 c31 c32 c33 c34 c35 c36 c37 c38 c39 c40 c41 c42 c43 c44 c45 c46 c47 c48 c49 c50 c51 c52 c53 c54 c55 c56 c57 c58 c59 c60 c61 c62 c63 c64 c65 c66 c67 c68 c69 c70 c71 c72 c264 c265 c266 c267 c268 c269 c270 c271 c272 c273 c274 c275 c276 c277 c278 c279 c280 c281 c282 c283 c284 c285 c286 c287 c288 c289 c290 c291 c292 c293 c294 c295 c296 c297 c298 c299 c300 c301 c302 c303 c304 c305 c306 c307 c308 c309 c310 c311 c312 c313 c314 c315 c316 c317 c318 c319 c320 c321 c322 c323 c324 c325 c326 c327 c328 c329 c330 c331 c332 c333 c334 c335 c336 c337 c338 c339 c340 c341 c342 c343 c344 c345 c346 c347 c348 c349 c350 c351 c352 c353 c354 c355 c356 c357 c358 c359 c360 c361 c362 c363 c364 c365 c366 c367 c368 c369 c370 c371 c372 c373 c374 c375 c376 c377 c378 c379 c380 c381 c382 c383 c384 t16 t17 t18 t19 t20 t21 t22 t23 t25 t26 t27 t28 t29 t30 t76 t77 t78 t79 t80 t81 t82 t83 t84 t85 t86 t87 t88 t89 t90 t91 t92 t93 t94 t95 t96 t97 t98 t99 t100 t101 t102 t103 t104 t105 t106 t107 t108 t109 t110 t111 t112 t113 t114 t115 t116 t117 t118 t119 t120 t121 t122 t123 t124 t125 t126 t127 t128 t129 t130 t131 t132 t133 t134 t135 t136 t137 t138 t139 t140 t141 t142 t143 t144 t145 t146 t147 t148 t149 t150 t151 t152 t153 t154 t155 t156 t157 t158 t159 t160 t161 t162 t163 t164 t165 t166 t167 t168 t169 t170 t171 t172 t173 t174 t175 t176 t177 t178 t179 t180 t181 t182 t183 t184 t185 t186 t187 t188 t189 t190 t191 t192 t193 t194 t195 t196 t197 t198 t199 t200 t201 t202 t203 t204 t205 t206 t207 t208 t209 t210 t211 t212 t213 t214 t215 t216 t217 t218 t219 t220 t221 t222 t223 t224 t225 t226 t227 t228 t229 t230 t231 t232 t233 t234 t235 t236 t237 t238 t239 t240 t241 t242 t243 t244 t245 t246 t247 t248 t249 t250 t251 t252 t253 t254 t255 t256 t257 t258 t259 t260 t261 t262 t263 R es vB t11 t12 t13 t14 X M Q hlt hk5
  · have hlen : es.length = n := by omega
    have e : (Value.int .i64 (es.length : Int)) = .int .i64 (n : Int) := by rw [hlen]
    rw [e]
    exact main_exit w p n (some ⟨b0, o0, none⟩) cap0 pb bb bs vL c0 c1 c2 c3 c4 c5 c6 c7 c8 c9 c15 c24 c31 c32 c33 c34 c35 c36 c37 c38 c39 c40 c41 c42 c43 c44 c45 c46 c47 c48 c49 c50 c51 c52 c53 c54 c55 c56 c57 c58 c59 c60 c61 c62 c63 c64 c65 c66 c67 c68 c69 c70 c71 c72 c264 c265 c266 c267 c268 c269 c270 c271 c272 c273 c274 c275 c276 c277 c278 c279 c280 c281 c282 c283 c284 c285 c286 c287 c288 c289 c290 c291 c292 c293 c294 c295 c296 c297 c298 c299 c300 c301 c302 c303 c304 c305 c306 c307 c308 c309 c310 c311 c312 c313 c314 c315 c316 c317 c318 c319 c320 c321 c322 c323 c324 c325 c326 c327 c328 c329 c330 c331 c332 c333 c334 c335 c336 c337 c338 c339 c340 c341 c342 c343 c344 c345 c346 c347 c348 c349 c350 c351 c352 c353 c354 c355 c356 c357 c358 c359 c360 c361 c362 c363 c364 c365 c366 c367 c368 c369 c370 c371 c372 c373 c374 c375 c376 c377 c378 c379 c380 c381 c382 c383 c384 t11 t12 t13 t14 t16 t17 t18 t19 t20 t21 t22 t23 t25 t26 t27 t28 t29 t30 t76 t77 t78 t79 t80 t81 t82 t83 t84 t85 t86 t87 t88 t89 t90 t91 t92 t93 t94 t95 t96 t97 t98 t99 t100 t101 t102 t103 t104 t105 t106 t107 t108 t109 t110 t111 t112 t113 t114 t115 t116 t117 t118 t119 t120 t121 t122 t123 t124 t125 t126 t127 t128 t129 t130 t131 t132 t133 t134 t135 t136 t137 t138 t139 t140 t141 t142 t143 t144 t145 t146 t147 t148 t149 t150 t151 t152 t153 t154 t155 t156 t157 t158 t159 t160 t161 t162 t163 t164 t165 t166 t167 t168 t169 t170 t171 t172 t173 t174 t175 t176 t177 t178 t179 t180 t181 t182 t183 t184 t185 t186 t187 t188 t189 t190 t191 t192 t193 t194 t195 t196 t197 t198 t199 t200 t201 t202 t203 t204 t205 t206 t207 t208 t209 t210 t211 t212 t213 t214 t215 t216 t217 t218 t219 t220 t221 t222 t223 t224 t225 t226 t227 t228 t229 t230 t231 t232 t233 t234 t235 t236 t237 t238 t239 t240 t241 t242 t243 t244 t245 t246 t247 t248 t249 t250 t251 t252 t253 t254 t255 t256 t257 t258 t259 t260 t261 t262 t263 R es vB X M _ Q hlen hexit

set_option maxRecDepth 1000000 in
set_option maxHeartbeats 4000000 in
theorem loop3_any (w : World) (p n : Nat) (ea : Option Addr) (cap0 pb bb : Nat) (bs : List Nat) (vL : Value) (nm kd : Nat → Int) (iv : Nat → Value) (il : Nat → Nat) (hI : 0 < n → ∃ b0 o0, ea = some ⟨b0, o0, none⟩ ∧ In w b0 o0 n nm kd iv il) (hall : ∀ i, i < n → il i ≤ 256) (hn : n ≤ 256) (c0 c1 c2 c3 c4 c5 c6 c7 c8 c9 c15 c24 c31 c32 c33 c34 c35 c36 c37 c38 c39 c40 c41 c42 c43 c44 c45 c46 c47 c48 c49 c50 c51 c52 c53 c54 c55 c56 c57 c58 c59 c60 c61 c62 c63 c64 c65 c66 c67 c68 c69 c70 c71 c72 c264 c265 c266 c267 c268 c269 c270 c271 c272 c273 c274 c275 c276 c277 c278 c279 c280 c281 c282 c283 c284 c285 c286 c287 c288 c289 c290 c291 c292 c293 c294 c295 c296 c297 c298 c299 c300 c301 c302 c303 c304 c305 c306 c307 c308 c309 c310 c311 c312 c313 c314 c315 c316 c317 c318 c319 c320 c321 c322 c323 c324 c325 c326 c327 c328 c329 c330 c331 c332 c333 c334 c335 c336 c337 c338 c339 c340 c341 c342 c343 c344 c345 c346 c347 c348 c349 c350 c351 c352 c353 c354 c355 c356 c357 c358 c359 c360 c361 c362 c363 c364 c365 c366 c367 c368 c369 c370 c371 c372 c373 c374 c375 c376 c377 c378 c379 c380 c381 c382 c383 c384 : Value) (t16 t17 t18 t19 t20 t21 t22 t23 t25 t26 t27 t28 t29 t30 t76 t77 t78 t79 t80 t81 t82 t83 t84 t85 t86 t87 t88 t89 t90 t91 t92 t93 t94 t95 t96 t97 t98 t99 t100 t101 t102 t103 t104 t105 t106 t107 t108 t109 t110 t111 t112 t113 t114 t115 t116 t117 t118 t119 t120 t121 t122 t123 t124 t125 t126 t127 t128 t129 t130 t131 t132 t133 t134 t135 t136 t137 t138 t139 t140 t141 t142 t143 t144 t145 t146 t147 t148 t149 t150 t151 t152 t153 t154 t155 t156 t157 t158 t159 t160 t161 t162 t163 t164 t165 t166 t167 t168 t169 t170 t171 t172 t173 t174 t175 t176 t177 t178 t179 t180 t181 t182 t183 t184 t185 t186 t187 t188 t189 t190 t191 t192 t193 t194 t195 t196 t197 t198 t199 t200 t201 t202 t203 t204 t205 t206 t207 t208 t209 t210 t211 t212 t213 t214 t215 t216 t217 t218 t219 t220 t221 t222 t223 t224 t225 t226 t227 t228 t229 t230 t231 t232 t233 t234 t235 t236 t237 t238 t239 t240 t241 t242 t243 t244 t245 t246 t247 t248 t249 t250 t251 t252 t253 t254 t255 t256 t257 t258 t259 t260 t261 t262 t263 : Value)
    (R : Nat → Nat) (vB vD vN vS vA : Value) (wr : World) (M : MainRel w.heap.size w p bs vL pb bb R [] vB vD vN vS vA wr)
    (Q : Exit → Act → World → Prop) (hexit : ∀ a' w', E3a w p n ea cap0 pb bb bs vL c0 c1 c2 c3 c4 c5 c6 c7 c8 c9 c15 c24 c31 c32 c33 c34 c35 c36 c37 c38 c39 c40 c41 c42 c43 c44 c45 c46 c47 c48 c49 c50 c51 c52 c53 c54 c55 c56 c57 c58 c59 c60 c61 c62 c63 c64 c65 c66 c67 c68 c69 c70 c71 c72 c264 c265 c266 c267 c268 c269 c270 c271 c272 c273 c274 c275 c276 c277 c278 c279 c280 c281 c282 c283 c284 c285 c286 c287 c288 c289 c290 c291 c292 c293 c294 c295 c296 c297 c298 c299 c300 c301 c302 c303 c304 c305 c306 c307 c308 c309 c310 c311 c312 c313 c314 c315 c316 c317 c318 c319 c320 c321 c322 c323 c324 c325 c326 c327 c328 c329 c330 c331 c332 c333 c334 c335 c336 c337 c338 c339 c340 c341 c342 c343 c344 c345 c346 c347 c348 c349 c350 c351 c352 c353 c354 c355 c356 c357 c358 c359 c360 c361 c362 c363 c364 c365 c366 c367 c368 c369 c370 c371 c372 c373 c374 c375 c376 c377 c378 c379 c380 c381 c382 c383 c384 a' w' → Q (.exit 4) a' w') :
    Code.wp Yba.prog (.loop ((((Yba.f3.body.map loopsOf).getD [])[2]?).getD .skip)) Q ⟨#[c0, c1, c2, c3, c4, c5, c6, c7, c8, c9, .pointer (some ⟨bb, 0, none⟩), vD, vN, vS, vA, c15, t16, t17, t18, t19, t20, t21, t22, t23, c24, t25, t26, t27, t28, t29, t30, c31, c32, c33, c34, c35, c36, c37, c38, c39, c40, c41, c42, c43, c44, c45, c46, c47, c48, c49, c50, c51, c52, c53, c54, c55, c56, c57, c58, c59, c60, c61, c62, c63, c64, c65, c66, c67, c68, c69, c70, c71, c72, .slice ea n cap0, .int .i64 (n : Int), .int .i64 0, t76, t77, t78, t79, t80, t81, t82, t83, t84, t85, t86, t87, t88, t89, t90, t91, t92, t93, t94, t95, t96, t97, t98, t99, t100, t101, t102, t103, t104, t105, t106, t107, t108, t109, t110, t111, t112, t113, t114, t115, t116, t117, t118, t119, t120, t121, t122, t123, t124, t125, t126, t127, t128, t129, t130, t131, t132, t133, t134, t135, t136, t137, t138, t139, t140, t141, t142, t143, t144, t145, t146, t147, t148, t149, t150, t151, t152, t153, t154, t155, t156, t157, t158, t159, t160, t161, t162, t163, t164, t165, t166, t167, t168, t169, t170, t171, t172, t173, t174, t175, t176, t177, t178, t179, t180, t181, t182, t183, t184, t185, t186, t187, t188, t189, t190, t191, t192, t193, t194, t195, t196, t197, t198, t199, t200, t201, t202, t203, t204, t205, t206, t207, t208, t209, t210, t211, t212, t213, t214, t215, t216, t217, t218, t219, t220, t221, t222, t223, t224, t225, t226, t227, t228, t229, t230, t231, t232, t233, t234, t235, t236, t237, t238, t239, t240, t241, t242, t243, t244, t245, t246, t247, t248, t249, t250, t251, t252, t253, t254, t255, t256, t257, t258, t259, t260, t261, t262, t263, c264, c265, c266, c267, c268, c269, c270, c271, c272, c273, c274, c275, c276, c277, c278, c279, c280, c281, c282, c283, c284, c285, c286, c287, c288, c289, c290, c291, c292, c293, c294, c295, c296, c297, c298, c299, c300, c301, c302, c303, c304, c305, c306, c307, c308, c309, c310, c311, c312, c313, c314, c315, c316, c317, c318, c319, c320, c321, c322, c323, c324, c325, c326, c327, c328, c329, c330, c331, c332, c333, c334, c335, c336, c337, c338, c339, c340, c341, c342, c343, c344, c345, c346, c347, c348, c349, c350, c351, c352, c353, c354, c355, c356, c357, c358, c359, c360, c361, c362, c363, c364, c365, c366, c367, c368, c369, c370, c371, c372, c373, c374, c375, c376, c377, c378, c379, c380, c381, c382, c383, c384], []⟩ wr := by
  rcases Nat.eq_zero_or_pos n with h0 | h0
  · subst h0
    refine wp_loop (fun a X => a = ⟨#[c0, c1, c2, c3, c4, c5, c6, c7, c8, c9, .pointer (some ⟨bb, 0, none⟩), vD, vN, vS, vA, c15, t16, t17, t18, t19, t20, t21, t22, t23, c24, t25, t26, t27, t28, t29, t30, c31, c32, c33, c34, c35, c36, c37, c38, c39, c40, c41, c42, c43, c44, c45, c46, c47, c48, c49, c50, c51, c52, c53, c54, c55, c56, c57, c58, c59, c60, c61, c62, c63, c64, c65, c66, c67, c68, c69, c70, c71, c72, .slice ea 0 cap0, .int .i64 ((0 : Nat) : Int), .int .i64 0, t76, t77, t78, t79, t80, t81, t82, t83, t84, t85, t86, t87, t88, t89, t90, t91, t92, t93, t94, t95, t96, t97, t98, t99, t100, t101, t102, t103, t104, t105, t106, t107, t108, t109, t110, t111, t112, t113, t114, t115, t116, t117, t118, t119, t120, t121, t122, t123, t124, t125, t126, t127, t128, t129, t130, t131, t132, t133, t134, t135, t136, t137, t138, t139, t140, t141, t142, t143, t144, t145, t146, t147, t148, t149, t150, t151, t152, t153, t154, t155, t156, t157, t158, t159, t160, t161, t162, t163, t164, t165, t166, t167, t168, t169, t170, t171, t172, t173, t174, t175, t176, t177, t178, t179, t180, t181, t182, t183, t184, t185, t186, t187, t188, t189, t190, t191, t192, t193, t194, t195, t196, t197, t198, t199, t200, t201, t202, t203, t204, t205, t206, t207, t208, t209, t210, t211, t212, t213, t214, t215, t216, t217, t218, t219, t220, t221, t222, t223, t224, t225, t226, t227, t228, t229, t230, t231, t232, t233, t234, t235, t236, t237, t238, t239, t240, t241, t242, t243, t244, t245, t246, t247, t248, t249, t250, t251, t252, t253, t254, t255, t256, t257, t258, t259, t260, t261, t262, t263, c264, c265, c266, c267, c268, c269, c270, c271, c272, c273, c274, c275, c276, c277, c278, c279, c280, c281, c282, c283, c284, c285, c286, c287, c288, c289, c290, c291, c292, c293, c294, c295, c296, c297, c298, c299, c300, c301, c302, c303, c304, c305, c306, c307, c308, c309, c310, c311, c312, c313, c314, c315, c316, c317, c318, c319, c320, c321, c322, c323, c324, c325, c326, c327, c328, c329, c330, c331, c332, c333, c334, c335, c336, c337, c338, c339, c340, c341, c342, c343, c344, c345, c346, c347, c348, c349, c350, c351, c352, c353, c354, c355, c356, c357, c358, c359, c360, c361, c362, c363, c364, c365, c366, c367, c368, c369, c370, c371, c372, c373, c374, c375, c376, c377, c378, c379, c380, c381, c382, c383, c384], []⟩ ∧ X = wr) (fun _ _ => 0) ⟨rfl, rfl⟩ ?_
    rintro a X ⟨rfl, rfl⟩
    exact main_exit w p 0 ea cap0 pb bb bs vL c0 c1 c2 c3 c4 c5 c6 c7 c8 c9 c15 c24 c31 c32 c33 c34 c35 c36 c37 c38 c39 c40 c41 c42 c43 c44 c45 c46 c47 c48 c49 c50 c51 c52 c53 c54 c55 c56 c57 c58 c59 c60 c61 c62 c63 c64 c65 c66 c67 c68 c69 c70 c71 c72 c264 c265 c266 c267 c268 c269 c270 c271 c272 c273 c274 c275 c276 c277 c278 c279 c280 c281 c282 c283 c284 c285 c286 c287 c288 c289 c290 c291 c292 c293 c294 c295 c296 c297 c298 c299 c300 c301 c302 c303 c304 c305 c306 c307 c308 c309 c310 c311 c312 c313 c314 c315 c316 c317 c318 c319 c320 c321 c322 c323 c324 c325 c326 c327 c328 c329 c330 c331 c332 c333 c334 c335 c336 c337 c338 c339 c340 c341 c342 c343 c344 c345 c346 c347 c348 c349 c350 c351 c352 c353 c354 c355 c356 c357 c358 c359 c360 c361 c362 c363 c364 c365 c366 c367 c368 c369 c370 c371 c372 c373 c374 c375 c376 c377 c378 c379 c380 c381 c382 c383 c384 vD vN vS vA t16 t17 t18 t19 t20 t21 t22 t23 t25 t26 t27 t28 t29 t30 t76 t77 t78 t79 t80 t81 t82 t83 t84 t85 t86 t87 t88 t89 t90 t91 t92 t93 t94 t95 t96 t97 t98 t99 t100 t101 t102 t103 t104 t105 t106 t107 t108 t109 t110 t111 t112 t113 t114 t115 t116 t117 t118 t119 t120 t121 t122 t123 t124 t125 t126 t127 t128 t129 t130 t131 t132 t133 t134 t135 t136 t137 t138 t139 t140 t141 t142 t143 t144 t145 t146 t147 t148 t149 t150 t151 t152 t153 t154 t155 t156 t157 t158 t159 t160 t161 t162 t163 t164 t165 t166 t167 t168 t169 t170 t171 t172 t173 t174 t175 t176 t177 t178 t179 t180 t181 t182 t183 t184 t185 t186 t187 t188 t189 t190 t191 t192 t193 t194 t195 t196 t197 t198 t199 t200 t201 t202 t203 t204 t205 t206 t207 t208 t209 t210 t211 t212 t213 t214 t215 t216 t217 t218 t219 t220 t221 t222 t223 t224 t225 t226 t227 t228 t229 t230 t231 t232 t233 t234 t235 t236 t237 t238 t239 t240 t241 t242 t243 t244 t245 t246 t247 t248 t249 t250 t251 t252 t253 t254 t255 t256 t257 t258 t259 t260 t261 t262 t263 R [] vB X M _ Q rfl hexit
  · obtain ⟨b0, o0, rfl, hI'⟩ := hI h0
    refine loop3 w p n b0 o0 cap0 pb bb bs vL nm kd iv il hI' hall hn c0 c1 c2 c3 c4 c5 c6 c7 c8 c9 c15 c24 c31 c32 c33 c34 c35 c36 c37 c38 c39 c40 c41 c42 c43 c44 c45 c46 c47 c48 c49 c50 c51 c52 c53 c54 c55 c56 c57 c58 c59 c60 c61 c62 c63 c64 c65 c66 c67 c68 c69 c70 c71 c72 c264 c265 c266 c267 c268 c269 c270 c271 c272 c273 c274 c275 c276 c277 c278 c279 c280 c281 c282 c283 c284 c285 c286 c287 c288 c289 c290 c291 c292 c293 c294 c295 c296 c297 c298 c299 c300 c301 c302 c303 c304 c305 c306 c307 c308 c309 c310 c311 c312 c313 c314 c315 c316 c317 c318 c319 c320 c321 c322 c323 c324 c325 c326 c327 c328 c329 c330 c331 c332 c333 c334 c335 c336 c337 c338 c339 c340 c341 c342 c343 c344 c345 c346 c347 c348 c349 c350 c351 c352 c353 c354 c355 c356 c357 c358 c359 c360 c361 c362 c363 c364 c365 c366 c367 c368 c369 c370 c371 c372 c373 c374 c375 c376 c377 c378 c379 c380 c381 c382 c383 c384 Q hexit _ _ ?_
    unfold L3
    exact ⟨_, _, _, _, _, _, _, _, _, _, _, _, _, _, _, _, _, _, _, _, _, _, _, _, _, _, _, _, _, _, _, _, _, _, _, _, _, _, _, _, _, _, _, _, _, _, _, _, _, _, _, _, _, _, _, _, _, _, _, _, _, _, _, _, _, _, _, _, _, _, _, _, _, _, _, _, _, _, _, _, _, _, _, _, _, _, _, _, _, _, _, _, _, _, _, _, _, _, _, _, _, _, _, _, _, _, _, _, _, _, _, _, _, _, _, _, _, _, _, _, _, _, _, _, _, _, _, _, _, _, _, _, _, _, _, _, _, _, _, _, _, _, _, _, _, _, _, _, _, _, _, _, _, _, _, _, _, _, _, _, _, _, _, _, _, _, _, _, _, _, _, _, _, _, _, _, _, _, _, _, _, _, _, _, _, _, _, _, _, _, _, _, _, _, _, _, _, _, _, _, _, _, _, _, _, _, _, R, [], vB, by simp, rfl, M, rfl⟩
end Go.Proofs.Ybulkbegy
