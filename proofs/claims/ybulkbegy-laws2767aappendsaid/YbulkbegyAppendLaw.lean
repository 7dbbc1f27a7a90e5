/-
  'LawS2767AAppend' (function 3), walked.
-/
import Derived.Test.YbulkbegyL3All
import Derived.Test.YbulkbegyAppendFin
import Derived.Deep.QuietTactic
import Derived.BigQuiet
namespace Go.Proofs.Ybulkbegy
open Go.RowKit
set_option linter.unusedVariables false
set_option linter.unusedSimpArgs false

set_option maxRecDepth 1000000 in
set_option maxHeartbeats 8000000 in
theorem law3 (w : World) (pr : Int) (ea : Option Addr) (n cap0 : Nat) (nm kd : Nat → Int) (iv : Nat → Value) (il : Nat → Nat) (hI : 0 < n → ∃ b0 o0, ea = some ⟨b0, o0, none⟩ ∧ In w b0 o0 n nm kd iv il) (hn : n ≤ 256) (h0 : 0 ≤ pr) (h1 : pr ≤ 255) :
    Calls Yba.prog 3 #[.int .u8 pr, .slice ea n cap0] w fun e w' => e = .returned (.bool true) ∧ Below w.heap.size w w' := by
  have hle : ¬ (256 : Int) < (n : Int) := by omega
  obtain ⟨p, hpx⟩ : ∃ p : Nat, pr % 4 = (p : Int) := ⟨(pr % 4).toNat, by omega⟩
  have hp3 : p ≤ 3 := by omega
  obtain ⟨i27, hi27, hz27, hs27, hb27⟩ := info_parts Yba.info27
  have hmk0 : ∀ W : World, (Instr.makeSlice 26 (.int .i64 0) (.int .i64 (p : Int))).run Yba.prog W = .ok (.slice (some ⟨W.heap.size, 0, none⟩) 0 p) (W.alloc (.cells (madeCells #[.pointer none] p) 27)) := fun W => by
    have := run_make (P := Yba.prog) W 26 27 i27 (.pointer none) Yba.underlying26 hi27 hz27 .i64 .i64 0 p (by omega) (by omega) (by rw [hb27]; omega) (by omega)
    simpa [hs27, Value.cells] using this
  have hmkp := run_make_row' (P := Yba.prog) 26 27 (.pointer none) 8 Yba.underlying26 Yba.info27 rfl .i64 .i64 p (by omega) (by omega)
  have HI := hideP hI
  clear hI
  go_enter Yba.func3, Yba.ntmps3
  go_wp2_with fail
  go_loop [40] (fun v => ∃ k : Nat, k ≤ n ∧ v = .int .i64 k ∧ Hid (∀ i, i < k → il i ≤ 256)) (fun v => n - (intOf v).toNat)
  case atStart => exact ⟨0, Nat.zero_le _, rfl, fun i hi => absurd hi (Nat.not_lt_zero _)⟩
  case round =>
    obtain ⟨k, hk, rfl, hall⟩ := hrel
    by_cases hlt : k < n
    · have hlt' : (k : Int) < (n : Int) := by omega
      obtain ⟨b0, o0, rfl, hI⟩ := HI.out (by omega)
      obtain ⟨a, c, hs, _⟩ := hI.sl k hlt
      have q2 := hI.c2 k hlt
      rw [hs] at q2
      clear hI hs
      by_cases hbig : 256 < il k
      · have hb' : (256 : Int) < (il k : Int) := by omega
        go_wp2_with fail
        go_ret
        exact ⟨rfl, Below.refl _ _⟩
      · have hb' : ¬ (256 : Int) < (il k : Int) := by omega
        go_wp2_with fail
        go_round
        case rel =>
          refine ⟨k + 1, by omega, by go_num, fun i hi => ?_⟩
          rcases Nat.lt_succ_iff_lt_or_eq.1 hi with c | rfl
          · exact hall i c
          · omega
        case measure => simp [intOf]; omega
    · obtain rfl : k = n := by omega
      have hlt' : ¬ (k : Int) < (k : Int) := by omega
      go_wp2_with fail
      go_loopw [7, 8] (fun v i wr => ∃ j : Nat, j ≤ p ∧ i = .int .i64 j ∧ ListRel w.heap.size w j v wr) (fun _ i _ => p - (intOf i).toNat)
      case atStart => exact ⟨0, Nat.zero_le _, rfl, list_start w p hp3⟩
      case round =>
        obtain ⟨j, hj, rfl, hrel⟩ := hrel
        by_cases hjlt : j < p
        · have hjlt' : (j : Int) < (p : Int) := by omega
          obtain ⟨R, bs, hO, hold, hbel⟩ := hrel
          have HO : Hid (∀ b, b < w.heap.size → R b = 99) := hold
          clear hold
          have hsz := hbel.size
          go_wp2_with (first | (at_builtin; refine wpList_append_own_at _ rfl _ _ 26 rfl w.heap.size 27 i27 (.pointer none) 1 8 Yba.underlying26 hi27 hz27 hs27 hb27 rfl (by decide) _ _ _ rfl ((hO.1.alloc _).alloc _) _ 1 1 [ptr wr.heap.size] rfl rfl ?c1 (one_cell _) ?c3 ?c4 ?c5 ?_))
          case c1 => exact one_new _ _ _ _ (by first | rfl | simp)
          case c3 => unfold maxLen; omega
          case c4 => omega
          case c5 => simp; omega
          intro v' w1 hown' hgrow _ hat
          have HN : Hid (ListRel w.heap.size w (j + 1) v' w1) := list_next hO HO.out hbel hsz hown' hgrow hat (by simp)
          clear hown' hgrow hat hO HO hbel
          go_wp2_with fail
          go_roundw
          case rel => exact ⟨j + 1, by omega, by go_num, HN.out⟩
          case measure => simp [intOf]; omega
        · obtain rfl : j = p := by omega
          have hjlt' : ¬ (j : Int) < (j : Int) := by omega
          obtain ⟨R, bs, hO, hold, hbel⟩ := hrel
          obtain ⟨la, lc, hv⟩ := hO.slice_len
          subst hv
          have HO : Hid (∀ b, b < w.heap.size → R b = 99) := hold
          clear hold
          obtain ⟨w2, hcopy, s2, hPre⟩ := copy_list hO
          obtain ⟨R0, M0⟩ := main_start hO HO.out hbel hbel.size s2 hPre
          obtain ⟨pb, hpb⟩ : ∃ pb, pb = wr.heap.size := ⟨_, rfl⟩
          obtain ⟨bb, hbb⟩ : ∃ bb, bb = w2.heap.size := ⟨_, rfl⟩
          rw [← hpb, ← hbb] at M0
          go_wp2_with fail
          rw [← hpb, ← hbb]
          clear hcopy s2 hPre hO HO hmk0 hmkp hpb hbb hbel
          refine loop3_any w j k ea cap0 pb bb bs (.slice la j lc) nm kd iv il HI.out hall.out hn _ _ _ _ _ _ _ _ _ _ _ _ _ _ _ _ _ _ _ _ _ _ _ _ _ _ _ _ _ _ _ _ _ _ _ _ _ _ _ _ _ _ _ _ _ _ _ _ _ _ _ _ _ _ _ _ _ _ _ _ _ _ _ _ _ _ _ _ _ _ _ _ _ _ _ _ _ _ _ _ _ _ _ _ _ _ _ _ _ _ _ _ _ _ _ _ _ _ _ _ _ _ _ _ _ _ _ _ _ _ _ _ _ _ _ _ _ _ _ _ _ _ _ _ _ _ _ _ _ _ _ _ _ _ _ _ _ _ _ _ _ _ _ _ _ _ _ _ _ _ _ _ _ _ _ _ _ _ _ _ _ _ _ _ _ _ _ _ _ _ _ _ _ _ _ _ _ _ _ _ _ _ _ _ _ _ _ _ _ _ _ _ _ _ _ _ _ _ _ _ _ _ _ _ _ _ _ _ _ _ _ _ _ _ _ _ _ _ _ _ _ _ _ _ _ _ _ _ _ _ _ _ _ _ _ _ _ _ _ _ _ _ _ _ _ _ _ _ _ _ _ _ _ _ _ _ _ _ _ _ _ _ _ _ _ _ _ _ _ _ _ _ _ _ _ _ _ _ _ _ _ _ _ _ _ _ _ _ _ _ _ _ _ _ _ _ _ _ _ _ _ _ _ _ _ _ _ _ _ _ _ _ _ _ _ _ _ _ _ _ _ _ _ _ _ _ _ _ _ _ _ _ _ _ _ _ _ _ _ _ _ _ _ _ _ _ _ _ _ _ _ _ _ _ _ _ _ _ _ _ _ _ _ _ _ _ _ _ _ _ _ _ _ _ _ _ _ R0 _ _ _ _ _ _ M0 _ ?_
          clear HI M0
          intro a' X hE
          unfold E3a at hE
          obtain ⟨t11, hE⟩ := hE
          obtain ⟨t12, hE⟩ := hE
          obtain ⟨t13, hE⟩ := hE
          obtain ⟨t14, hE⟩ := hE
          obtain ⟨t16, hE⟩ := hE
          obtain ⟨t17, hE⟩ := hE
          obtain ⟨t18, hE⟩ := hE
          obtain ⟨t19, hE⟩ := hE
          obtain ⟨t20, hE⟩ := hE
          obtain ⟨t21, hE⟩ := hE
          obtain ⟨t22, hE⟩ := hE
          obtain ⟨t23, hE⟩ := hE
          obtain ⟨t25, hE⟩ := hE
          obtain ⟨t26, hE⟩ := hE
          obtain ⟨t27, hE⟩ := hE
          obtain ⟨t28, hE⟩ := hE
          obtain ⟨t29, hE⟩ := hE
          obtain ⟨t30, hE⟩ := hE
          obtain ⟨t75, hE⟩ := hE
          obtain ⟨t76, hE⟩ := hE
          obtain ⟨t77, hE⟩ := hE
          obtain ⟨t78, hE⟩ := hE
          obtain ⟨t79, hE⟩ := hE
          obtain ⟨t80, hE⟩ := hE
          obtain ⟨t81, hE⟩ := hE
          obtain ⟨t82, hE⟩ := hE
          obtain ⟨t83, hE⟩ := hE
          obtain ⟨t84, hE⟩ := hE
          obtain ⟨t85, hE⟩ := hE
          obtain ⟨t86, hE⟩ := hE
          obtain ⟨t87, hE⟩ := hE
          obtain ⟨t88, hE⟩ := hE
          obtain ⟨t89, hE⟩ := hE
          obtain ⟨t90, hE⟩ := hE
          obtain ⟨t91, hE⟩ := hE
          obtain ⟨t92, hE⟩ := hE
          obtain ⟨t93, hE⟩ := hE
          obtain ⟨t94, hE⟩ := hE
          obtain ⟨t95, hE⟩ := hE
          obtain ⟨t96, hE⟩ := hE
          obtain ⟨t97, hE⟩ := hE
          obtain ⟨t98, hE⟩ := hE
          obtain ⟨t99, hE⟩ := hE
          obtain ⟨t100, hE⟩ := hE
          obtain ⟨t101, hE⟩ := hE
          obtain ⟨t102, hE⟩ := hE
          obtain ⟨t103, hE⟩ := hE
          obtain ⟨t104, hE⟩ := hE
          obtain ⟨t105, hE⟩ := hE
          obtain ⟨t106, hE⟩ := hE
          obtain ⟨t107, hE⟩ := hE
          obtain ⟨t108, hE⟩ := hE
          obtain ⟨t109, hE⟩ := hE
          obtain ⟨t110, hE⟩ := hE
          obtain ⟨t111, hE⟩ := hE
          obtain ⟨t112, hE⟩ := hE
          obtain ⟨t113, hE⟩ := hE
          obtain ⟨t114, hE⟩ := hE
          obtain ⟨t115, hE⟩ := hE
          obtain ⟨t116, hE⟩ := hE
          obtain ⟨t117, hE⟩ := hE
          obtain ⟨t118, hE⟩ := hE
          obtain ⟨t119, hE⟩ := hE
          obtain ⟨t120, hE⟩ := hE
          obtain ⟨t121, hE⟩ := hE
          obtain ⟨t122, hE⟩ := hE
          obtain ⟨t123, hE⟩ := hE
          obtain ⟨t124, hE⟩ := hE
          obtain ⟨t125, hE⟩ := hE
          obtain ⟨t126, hE⟩ := hE
          obtain ⟨t127, hE⟩ := hE
          obtain ⟨t128, hE⟩ := hE
          obtain ⟨t129, hE⟩ := hE
          obtain ⟨t130, hE⟩ := hE
          obtain ⟨t131, hE⟩ := hE
          obtain ⟨t132, hE⟩ := hE
          obtain ⟨t133, hE⟩ := hE
          obtain ⟨t134, hE⟩ := hE
          obtain ⟨t135, hE⟩ := hE
          obtain ⟨t136, hE⟩ := hE
          obtain ⟨t137, hE⟩ := hE
          obtain ⟨t138, hE⟩ := hE
          obtain ⟨t139, hE⟩ := hE
          obtain ⟨t140, hE⟩ := hE
          obtain ⟨t141, hE⟩ := hE
          obtain ⟨t142, hE⟩ := hE
          obtain ⟨t143, hE⟩ := hE
          obtain ⟨t144, hE⟩ := hE
          obtain ⟨t145, hE⟩ := hE
          obtain ⟨t146, hE⟩ := hE
          obtain ⟨t147, hE⟩ := hE
          obtain ⟨t148, hE⟩ := hE
          obtain ⟨t149, hE⟩ := hE
          obtain ⟨t150, hE⟩ := hE
          obtain ⟨t151, hE⟩ := hE
          obtain ⟨t152, hE⟩ := hE
          obtain ⟨t153, hE⟩ := hE
          obtain ⟨t154, hE⟩ := hE
          obtain ⟨t155, hE⟩ := hE
          obtain ⟨t156, hE⟩ := hE
          obtain ⟨t157, hE⟩ := hE
          obtain ⟨t158, hE⟩ := hE
          obtain ⟨t159, hE⟩ := hE
          obtain ⟨t160, hE⟩ := hE
          obtain ⟨t161, hE⟩ := hE
          obtain ⟨t162, hE⟩ := hE
          obtain ⟨t163, hE⟩ := hE
          obtain ⟨t164, hE⟩ := hE
          obtain ⟨t165, hE⟩ := hE
          obtain ⟨t166, hE⟩ := hE
          obtain ⟨t167, hE⟩ := hE
          obtain ⟨t168, hE⟩ := hE
          obtain ⟨t169, hE⟩ := hE
          obtain ⟨t170, hE⟩ := hE
          obtain ⟨t171, hE⟩ := hE
          obtain ⟨t172, hE⟩ := hE
          obtain ⟨t173, hE⟩ := hE
          obtain ⟨t174, hE⟩ := hE
          obtain ⟨t175, hE⟩ := hE
          obtain ⟨t176, hE⟩ := hE
          obtain ⟨t177, hE⟩ := hE
          obtain ⟨t178, hE⟩ := hE
          obtain ⟨t179, hE⟩ := hE
          obtain ⟨t180, hE⟩ := hE
          obtain ⟨t181, hE⟩ := hE
          obtain ⟨t182, hE⟩ := hE
          obtain ⟨t183, hE⟩ := hE
          obtain ⟨t184, hE⟩ := hE
          obtain ⟨t185, hE⟩ := hE
          obtain ⟨t186, hE⟩ := hE
          obtain ⟨t187, hE⟩ := hE
          obtain ⟨t188, hE⟩ := hE
          obtain ⟨t189, hE⟩ := hE
          obtain ⟨t190, hE⟩ := hE
          obtain ⟨t191, hE⟩ := hE
          obtain ⟨t192, hE⟩ := hE
          obtain ⟨t193, hE⟩ := hE
          obtain ⟨t194, hE⟩ := hE
          obtain ⟨t195, hE⟩ := hE
          obtain ⟨t196, hE⟩ := hE
          obtain ⟨t197, hE⟩ := hE
          obtain ⟨t198, hE⟩ := hE
          obtain ⟨t199, hE⟩ := hE
          obtain ⟨t200, hE⟩ := hE
          obtain ⟨t201, hE⟩ := hE
          obtain ⟨t202, hE⟩ := hE
          obtain ⟨t203, hE⟩ := hE
          obtain ⟨t204, hE⟩ := hE
          obtain ⟨t205, hE⟩ := hE
          obtain ⟨t206, hE⟩ := hE
          obtain ⟨t207, hE⟩ := hE
          obtain ⟨t208, hE⟩ := hE
          obtain ⟨t209, hE⟩ := hE
          obtain ⟨t210, hE⟩ := hE
          obtain ⟨t211, hE⟩ := hE
          obtain ⟨t212, hE⟩ := hE
          obtain ⟨t213, hE⟩ := hE
          obtain ⟨t214, hE⟩ := hE
          obtain ⟨t215, hE⟩ := hE
          obtain ⟨t216, hE⟩ := hE
          obtain ⟨t217, hE⟩ := hE
          obtain ⟨t218, hE⟩ := hE
          obtain ⟨t219, hE⟩ := hE
          obtain ⟨t220, hE⟩ := hE
          obtain ⟨t221, hE⟩ := hE
          obtain ⟨t222, hE⟩ := hE
          obtain ⟨t223, hE⟩ := hE
          obtain ⟨t224, hE⟩ := hE
          obtain ⟨t225, hE⟩ := hE
          obtain ⟨t226, hE⟩ := hE
          obtain ⟨t227, hE⟩ := hE
          obtain ⟨t228, hE⟩ := hE
          obtain ⟨t229, hE⟩ := hE
          obtain ⟨t230, hE⟩ := hE
          obtain ⟨t231, hE⟩ := hE
          obtain ⟨t232, hE⟩ := hE
          obtain ⟨t233, hE⟩ := hE
          obtain ⟨t234, hE⟩ := hE
          obtain ⟨t235, hE⟩ := hE
          obtain ⟨t236, hE⟩ := hE
          obtain ⟨t237, hE⟩ := hE
          obtain ⟨t238, hE⟩ := hE
          obtain ⟨t239, hE⟩ := hE
          obtain ⟨t240, hE⟩ := hE
          obtain ⟨t241, hE⟩ := hE
          obtain ⟨t242, hE⟩ := hE
          obtain ⟨t243, hE⟩ := hE
          obtain ⟨t244, hE⟩ := hE
          obtain ⟨t245, hE⟩ := hE
          obtain ⟨t246, hE⟩ := hE
          obtain ⟨t247, hE⟩ := hE
          obtain ⟨t248, hE⟩ := hE
          obtain ⟨t249, hE⟩ := hE
          obtain ⟨t250, hE⟩ := hE
          obtain ⟨t251, hE⟩ := hE
          obtain ⟨t252, hE⟩ := hE
          obtain ⟨t253, hE⟩ := hE
          obtain ⟨t254, hE⟩ := hE
          obtain ⟨t255, hE⟩ := hE
          obtain ⟨t256, hE⟩ := hE
          obtain ⟨t257, hE⟩ := hE
          obtain ⟨t258, hE⟩ := hE
          obtain ⟨t259, hE⟩ := hE
          obtain ⟨t260, hE⟩ := hE
          obtain ⟨t261, hE⟩ := hE
          obtain ⟨t262, hE⟩ := hE
          obtain ⟨t263, hE⟩ := hE
          obtain ⟨R, es, vB, hlen, h75, M, ha⟩ := hE
          subst h75 ha
          have hes : es.length ≤ 256 := by omega
          have HL := hideP hlen
          clear hlen
          go_wp2_with fail
          refine (refs_any R w.heap.size X bb es j (bs.map ptr) (.slice la j lc) vB hes hp3 M.bel.size M.hb (by simpa using M.hB) M.hL M.hes).mono ?_
          rintro e1 w1 ⟨v, rfl, prs, R1, hprs, hs, hO, href⟩
          obtain ⟨g, gD, gN, gS, gA, a, aD, aN, aS, aA, c, cD, cN, cS, cA, rfl, rfl, rfl, rfl, rfl, e0, e1, e2, e3, e4, HF⟩ := fin3 M M.bel.size hprs hs hO href
          have hm : prs.length ≤ 256 := by
            have h1 : prs.length = ((es.take es.length).filter isOut).length := by rw [← hprs]; simp
            have h2 := List.length_filter_le isOut (es.take es.length)
            have h3 : (es.take es.length).length = es.length := by rw [List.take_length]
            omega
          generalize prs.length = m at e0 e1 e2 e3 e4 HF hm
          clear hprs hs hO href M
          have E0 := hideP e0
          have E1 := hideP e1
          have E2 := hideP e2
          have E3 := hideP e3
          have E4 := hideP e4
          clear e0 e1 e2 e3 e4
          have hjm : (Value.int .i64 ((j + m : Nat) : Int)) = .int .i64 ((j : Int) + (m : Int)) := by rw [Int.natCast_add]
          go_wp2_with fail
          have N27 := neq27
          have N28 := neq28
          have N29 := neq29
          have N30 := neq30
          go_loopw [32] (fun i X => ∃ q : Nat, q ≤ j ∧ i = .int .i64 q ∧ Fin3 w.heap.size w j m g pb gD gN gS gA X) (fun i _ => j - (intOf i).toNat)
          case atStart => exact ⟨0, Nat.zero_le _, rfl, HF⟩
          case round =>
            obtain ⟨q, hq, rfl, HF⟩ := hrel
            by_cases hqlt : q < j
            · have hqlt' : (q : Int) < (j : Int) := by omega
              have hqjm : (q : Int) < (j : Int) + (m : Int) := by omega
              obtain rfl := E0.out (by omega)
              obtain ⟨b, k1, k2⟩ := HF.f1 q hqlt
              have HF' := hideP HF
              clear HF
              go_wp2_with fail
              go_quiet (fail)
              go_wp2_with fail
              go_roundw
              case rel => exact ⟨q + 1, by omega, by go_num, HF'.out.drewN _⟩
              case measure => simp [intOf]; omega
            · obtain rfl : q = j := by omega
              have hqlt' : ¬ (q : Int) < (q : Int) := by omega
              go_wp2_with fail
              go_loopw [33] (fun i X => ∃ z : Nat, z ≤ m ∧ i = .int .i64 z ∧ Fin3 w.heap.size w q m g pb gD gN gS gA X) (fun i _ => m - (intOf i).toNat)
              case atStart => exact ⟨0, Nat.zero_le _, rfl, HF⟩
              case round =>
                obtain ⟨z, hz, rfl, HF⟩ := hrel
                by_cases hzlt : z < m
                · have hzlt' : (z : Int) < (m : Int) := by omega
                  have hzjm : (q : Int) + (z : Int) < (q : Int) + (m : Int) := by omega
                  obtain rfl := E0.out (by omega)
                  obtain rfl := E1.out (by omega)
                  obtain rfl := E2.out (by omega)
                  obtain rfl := E3.out (by omega)
                  obtain rfl := E4.out (by omega)
                  obtain ⟨rb, d, nb, s, al, k1, k2, k3, k4, k5, k6, k7, k8, k9, k10, k11, k12⟩ := HF.f2 z hzlt
                  have HF' := hideP HF
                  clear HF
                  rcases k12 with k12 | ⟨k12, k13⟩
                  · go_wp2_with fail
                    go_quiet (fail)
                    go_wp2_with fail
                    go_quiet (fail)
                    go_wp2_with fail
                    go_roundw
                    case rel => exact ⟨z + 1, by omega, by go_num, HF'.out.drewN _⟩
                    case measure => simp [intOf]; omega
                  · go_wp2_with fail
                    go_quiet (fail)
                    go_wp2_with fail
                    go_roundw
                    case rel => exact ⟨z + 1, by omega, by go_num, HF'.out.drewN _⟩
                    case measure => simp [intOf]; omega
                · obtain rfl : z = m := by omega
                  have hzlt' : ¬ (z : Int) < (z : Int) := by omega
                  have HB := HF.bel
                  clear HF
                  go_wp2_with fail
                  go_ret
                  exact ⟨rfl, HB⟩
end Go.Proofs.Ybulkbegy
