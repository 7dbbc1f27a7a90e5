/-
  The closure of 'propagateFixedBuild' (function 9) and 'propagateFixedBuild' (function 5).
-/
import Derived.Test.YbulkbehmDoorLand
namespace Go.Proofs.YbulkbehmDoor
open Go.RowKit

/-- What the closure answers. -/
def fixI (ah at_ i : Int) : Int := if i = -1 then -1 else if i = 0 then ah else at_

theorem ret1 {a b : Int} (h : a = b) : Ending.returned (.int .i64 b) = .returned (.int .i64 a) := by rw [h]

set_option maxHeartbeats 1000000 in
theorem fix_any (ah at_ i : Int) (cb : Nat) (w : World) (c0 : w.cell? ⟨cb, 0, none⟩ = some (.int .i64 ah)) (c1 : w.cell? ⟨cb, 1, none⟩ = some (.int .i64 at_)) :
    Calls Ybad.prog 9 #[.int .i64 i, .pointer (some ⟨cb, 0, none⟩)] w fun e w' => e = .returned (.int .i64 (fixI ah at_ i)) ∧ w' = w := by
  by_cases h1 : i = -1
  · have b1 : (i == -1) = true := by simp [h1]
    have e1 : Hid (fixI ah at_ i = -1) := by unfold Hid fixI; rw [if_pos h1]
    clear h1
    go_enter Ybad.func9, Ybad.ntmps9
    go_wp2
    go_ret
    exact ⟨ret1 e1.out, rfl⟩
  · have b1 : (i == -1) = false := by simp [h1]
    by_cases h2 : i = 0
    · have b2 : (i == 0) = true := by simp [h2]
      have e1 : Hid (fixI ah at_ i = ah) := by unfold Hid fixI; rw [if_neg h1, if_pos h2]
      clear h1 h2
      go_enter Ybad.func9, Ybad.ntmps9
      go_wp2
      go_ret
      exact ⟨ret1 e1.out, rfl⟩
    · have b2 : (i == 0) = false := by simp [h2]
      have e1 : Hid (fixI ah at_ i = at_) := by unfold Hid fixI; rw [if_neg h1, if_neg h2]
      clear h1 h2
      go_enter Ybad.func9, Ybad.ntmps9
      go_wp2
      go_ret
      exact ⟨ret1 e1.out, rfl⟩

/-- Behind 'landAt': the third of the call's own blocks is as it was laid. -/
theorem behind {w w1 : World} {o1 o2 : Obj} {v0 v1 : Value} (hb : Below (((w.alloc o1).alloc o2).alloc (.cells #[v0, v1] 26)).drew.heap.size (((w.alloc o1).alloc o2).alloc (.cells #[v0, v1] 26)).drew w1) :
    Below w.heap.size w w1 ∧ w1.cell? ⟨w.heap.size + 1 + 1, 0, none⟩ = some v0 ∧ w1.cell? ⟨w.heap.size + 1 + 1, 1, none⟩ = some v1 ∧ w1.frozen? ⟨w.heap.size + 1 + 1, 0, none⟩ = false ∧ w1.frozen? ⟨w.heap.size + 1 + 1, 1, none⟩ = false := by
  have hs : (((w.alloc o1).alloc o2).alloc (.cells #[v0, v1] 26)).drew.heap.size = w.heap.size + 1 + 1 + 1 := by
    show (((w.alloc o1).alloc o2).alloc (.cells #[v0, v1] 26)).heap.size = _
    simp
  obtain ⟨hc, hf⟩ := bcell hb
  refine ⟨(alloc0 (alloc0 (alloc0 (Below.refl _ _) _) _) _).drew.trans (hb.mono (by rw [hs]; omega)), ?_, ?_, ?_, ?_⟩
  · rw [hc _ _ (by rw [hs]; omega)]
    show (((w.alloc o1).alloc o2).alloc (.cells #[v0, v1] 26)).cell? _ = _
    rw [World.cell?_alloc_at _ _ _ _ (by simp)]; rfl
  · rw [hc _ _ (by rw [hs]; omega)]
    show (((w.alloc o1).alloc o2).alloc (.cells #[v0, v1] 26)).cell? _ = _
    rw [World.cell?_alloc_at _ _ _ _ (by simp)]; rfl
  · rw [hf _ _ (by rw [hs]; omega)]
    show (((w.alloc o1).alloc o2).alloc (.cells #[v0, v1] 26)).frozen? _ = _
    rw [World.frozen?_alloc_at _ _ _ _ (by simp)]
  · rw [hf _ _ (by rw [hs]; omega)]
    show (((w.alloc o1).alloc o2).alloc (.cells #[v0, v1] 26)).frozen? _ = _
    rw [World.frozen?_alloc_at _ _ _ _ (by simp)]

set_option maxHeartbeats 2000000 in
theorem prop_host (ah at_ rh rt : Int) (w : World) (e0 : onB (fixI ah at_ rh) = false) :
    Calls Ybad.prog 5 #[.agg #[.int .i64 ah, .int .i64 at_], .agg #[.int .i64 rh, .int .i64 rt]] w fun e w' => e = .returned (.tuple #[.int .i64 0, .agg #[.bool false, .int .i64 (fixI ah at_ rh)], .bool false]) ∧ Below w.heap.size w w' := by
  go_enter Ybad.func5, Ybad.ntmps5
  go_wp2_with fail
  go_region_with (first
    | (go_at_call 9; refine (fix_any ah at_ _ _ _ ?_ ?_).mono ?_; simp [go_sem]; simp [go_sem]; rintro e w' ⟨rfl, rfl⟩)
    | (go_at_call 10; refine (land_host _ _ _ e0).mono ?_; rintro e w1 ⟨rfl, hb⟩; obtain ⟨hbw, p0, p1, z0, z1⟩ := behind hb; clear hb))
  all_goals
    go_wp2
    refine bodyPost_ret (v := .tuple #[.int .i64 0, .agg #[.bool false, .int .i64 (fixI ah at_ rh)], .bool false]) (by simp [results, Ybad.results5, go_sem, p0, p1]) rfl ⟨rfl, ?_⟩
    repeat (first | exact hbw | refine Below.drew ?_ | refine Below.setCell ?_ (by simp; omega) _ | refine alloc0 ?_ _)

set_option maxHeartbeats 2000000 in
theorem prop_target (ah at_ rh rt : Int) (w : World) (e0 : onB (fixI ah at_ rh) = true) (e1 : onB (fixI ah at_ rt) = false) :
    Calls Ybad.prog 5 #[.agg #[.int .i64 ah, .int .i64 at_], .agg #[.int .i64 rh, .int .i64 rt]] w fun e w' => e = .returned (.tuple #[.int .i64 0, .agg #[.bool true, .int .i64 (fixI ah at_ rt)], .bool false]) ∧ Below w.heap.size w w' := by
  go_enter Ybad.func5, Ybad.ntmps5
  go_wp2_with fail
  go_region_with (first
    | (go_at_call 9; refine (fix_any ah at_ _ _ _ ?_ ?_).mono ?_; simp [go_sem]; simp [go_sem]; rintro e w' ⟨rfl, rfl⟩)
    | (go_at_call 10; refine (land_target _ _ _ e0 e1).mono ?_; rintro e w1 ⟨rfl, hb⟩; obtain ⟨hbw, p0, p1, z0, z1⟩ := behind hb; clear hb))
  all_goals
    go_wp2
    refine bodyPost_ret (v := .tuple #[.int .i64 0, .agg #[.bool true, .int .i64 (fixI ah at_ rt)], .bool false]) (by simp [results, Ybad.results5, go_sem, p0, p1]) rfl ⟨rfl, ?_⟩
    repeat (first | exact hbw | refine Below.drew ?_ | refine Below.setCell ?_ (by simp; omega) _ | refine alloc0 ?_ _)

theorem TabIs.below {w w' : World} (hT : TabIs w) (h0 : 0 < w.heap.size) (hb : Below w.heap.size w w') : TabIs w' := fun i hi => by
  rw [hb.cell (p := ⟨0, i * 3 + 1, none⟩) h0, hb.cell (p := ⟨0, i * 3 + 1 + 1, none⟩) h0]
  exact hT i hi

set_option maxHeartbeats 2000000 in
theorem prop_on (ah at_ rh rt : Int) (w : World) (hT : TabIs w) (h0 : 0 < w.heap.size) (e0 : onB (fixI ah at_ rh) = true) (e1 : onB (fixI ah at_ rt) = true) :
    Calls Ybad.prog 5 #[.agg #[.int .i64 ah, .int .i64 at_], .agg #[.int .i64 rh, .int .i64 rt]] w fun e w' => e = .returned (.tuple #[.int .i64 (listAt (fixI ah at_ rh) (fixI ah at_ rt)), .agg #[.bool false, .int .i64 0], .bool true]) ∧ Below w.heap.size w w' := by
  have HT : Hid (TabIs w) := hT
  clear hT
  go_enter Ybad.func5, Ybad.ntmps5
  go_wp2_with fail
  go_region_with (first
    | (go_at_call 9; refine (fix_any ah at_ _ _ _ ?_ ?_).mono ?_; simp [go_sem]; simp [go_sem]; rintro e w' ⟨rfl, rfl⟩)
    | (go_at_call 10; refine (land_on _ _ _ ?_ ?_ e0 e1).mono ?_; exact HT.out.below h0 (alloc0 (alloc0 (alloc0 (Below.refl _ _) _) _) _).drew; simp; rintro e w1 ⟨rfl, hb⟩; obtain ⟨hbw, p0, p1, z0, z1⟩ := behind hb; clear hb))
  all_goals
    go_wp2
    refine bodyPost_ret (v := .tuple #[.int .i64 (listAt (fixI ah at_ rh) (fixI ah at_ rt)), .agg #[.bool false, .int .i64 0], .bool true]) (by simp [results, Ybad.results5, go_sem, p0, p1]) rfl ⟨rfl, ?_⟩
    repeat (first | exact hbw | refine Below.drew ?_ | refine Below.setCell ?_ (by simp; omega) _ | refine alloc0 ?_ _)
end Go.Proofs.YbulkbehmDoor
