/-
  'LawS2769CExact' (function 3) and 'LawS2769CEnterLeave' (function 4) walked.
-/
import Derived.Test.YbulkbeiaWatch
namespace Go.Proofs.Ybulkbeia
open Go.RowKit

set_option maxHeartbeats 1000000 in
theorem exact_held (st ca fi : Int) (w : World) :
    Calls Yba.prog 3 #[.int .u64 st, .int .u64 ca, .bool true, .int .u64 fi] w fun e w' => e = .returned (.bool true) ∧ Below w.heap.size w w' := by
  go_enter Yba.func3, Yba.ntmps3
  go_wp2_with fail
  refine (store0 (watch_new w _ _ _ _) st).mono ?_
  rintro e w1 ⟨rfl, W1⟩
  go_wp2_with fail
  refine (store1 W1 ca).mono ?_
  rintro e w2 ⟨rfl, W2⟩
  go_wp2_with fail
  refine (store2 W2 true).mono ?_
  rintro e w3 ⟨rfl, W3⟩
  go_wp2_with fail
  refine (enter_held W3 fi).mono ?_
  rintro e w4 ⟨rfl, rfl⟩
  go_wp2_with fail
  refine (load64 _ _ _ _ W3.c0).mono ?_
  rintro e w4 ⟨rfl, rfl⟩
  go_wp2_with fail
  refine (load64 _ _ _ _ W3.c1).mono ?_
  rintro e w4 ⟨rfl, rfl⟩
  go_wp2_with fail
  refine (loadB _ _ _ true _ W3.c2 rfl).mono ?_
  rintro e w4 ⟨rfl, rfl⟩
  go_wp2_with fail
  go_ret
  exact ⟨rfl, W3.bel⟩

set_option maxHeartbeats 1000000 in
theorem exact_free (st ca fi : Int) (w : World) :
    Calls Yba.prog 3 #[.int .u64 st, .int .u64 ca, .bool false, .int .u64 fi] w fun e w' => e = .returned (.bool true) ∧ Below w.heap.size w w' := by
  go_enter Yba.func3, Yba.ntmps3
  go_wp2_with fail
  refine (store0 (watch_new w _ _ _ _) st).mono ?_
  rintro e w1 ⟨rfl, W1⟩
  go_wp2_with fail
  refine (store1 W1 ca).mono ?_
  rintro e w2 ⟨rfl, W2⟩
  go_wp2_with fail
  refine (store2 W2 false).mono ?_
  rintro e w3 ⟨rfl, W3⟩
  go_wp2_with fail
  refine (enter_free W3 fi).mono ?_
  rintro e w4 ⟨rfl, W4⟩
  go_wp2_with fail
  refine (load64 _ _ _ _ W4.c0).mono ?_
  rintro e w5 ⟨rfl, rfl⟩
  go_wp2_with fail
  refine (load64 _ _ _ _ W4.c1).mono ?_
  rintro e w5 ⟨rfl, rfl⟩
  go_wp2_with fail
  refine (loadB _ _ _ false _ W4.c2 rfl).mono ?_
  rintro e w5 ⟨rfl, rfl⟩
  go_wp2_with fail
  go_ret
  exact ⟨rfl, W4.bel⟩

/-- 'leave' at the step that stands. -/
theorem leave_now {w X : World} {s c h : Int} (W : Watch w s c h X) : Calls Yba.prog 10 #[.pointer (some ⟨w.heap.size, 0, none⟩), .int .u64 s] X fun e w' => e = .returned (.bool true) ∧ Watch w (IntKind.u64.wrap (s + 1)) c h w' := by
  go_enter Yba.func10, Yba.ntmps10
  go_wp2_with fail
  refine (cas0 W (IntKind.u64.wrap (s + 1))).mono ?_
  rintro e w1 ⟨rfl, W1⟩
  go_wp2_with fail
  go_ret
  exact ⟨rfl, W1⟩

theorem wrap_is (n : Int) : IntKind.u64.wrap n = n % 18446744073709551616 := by
  simp [IntKind.wrap, IntKind.signed, IntKind.bits]

theorem odd_step (ha : Int) : ((IntKind.u64.wrap (IntKind.u64.wrap (ha * 2) + 1)).tmod 2 != 1) = false := by
  rw [wrap_is, wrap_is, Int.tmod_eq_emod_of_nonneg (Int.emod_nonneg _ (by omega))]
  have : ((ha * 2) % 18446744073709551616 + 1) % 18446744073709551616 % 2 = 1 := by omega
  rw [this]; rfl

theorem two_past (ha : Int) : IntKind.u64.wrap (IntKind.u64.wrap (IntKind.u64.wrap (ha * 2) + 1) + 1) = IntKind.u64.wrap (IntKind.u64.wrap (ha * 2) + 2) := by
  simp only [wrap_is]; omega

set_option maxHeartbeats 1000000 in
theorem enter_leave (ha fi : Int) (w : World) :
    Calls Yba.prog 4 #[.int .u64 ha, .int .u64 fi] w fun e w' => e = .returned (.bool true) ∧ Below w.heap.size w w' := by
  have h1 := odd_step ha
  have h2 : (IntKind.u64.wrap (IntKind.u64.wrap (IntKind.u64.wrap (ha * 2) + 1) + 1) == IntKind.u64.wrap (IntKind.u64.wrap (ha * 2) + 2)) = true := by rw [two_past]; simp
  go_enter Yba.func4, Yba.ntmps4
  go_wp2_with fail
  refine (store0 (watch_new w _ _ _ _) _).mono ?_
  rintro e w1 ⟨rfl, W1⟩
  go_wp2_with fail
  refine (enter_free W1 fi).mono ?_
  rintro e w4 ⟨rfl, W4⟩
  go_wp2_with fail
  refine (leave_now W4).mono ?_
  rintro e w5 ⟨rfl, W5⟩
  go_wp2_with fail
  refine (load64 _ _ _ _ W5.c0).mono ?_
  rintro e w6 ⟨rfl, rfl⟩
  go_wp2_with fail
  refine (load64 _ _ _ _ W5.c1).mono ?_
  rintro e w6 ⟨rfl, rfl⟩
  go_wp2_with fail
  go_ret
  exact ⟨rfl, W5.bel⟩
end Go.Proofs.Ybulkbeia
