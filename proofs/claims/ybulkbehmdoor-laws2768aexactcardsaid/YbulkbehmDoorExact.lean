/-
  'LawS2768AExact' (function 3) walked.
-/
import Derived.Test.YbulkbehmDoorLaws
namespace Go.Proofs.YbulkbehmDoor
open Go.RowKit

theorem zfix_any (ah at_ i : Int) (w : World) :
    Calls Ybad.prog 6 #[.agg #[.int .i64 ah, .int .i64 at_], .int .i64 i] w fun e w' => e = .returned (.int .i64 (fixI ah at_ i)) ∧ Below w.heap.size w w' := by
  by_cases h1 : i = -1
  · have b1 : (i == -1) = true := by simp [h1]
    have e1 : Hid (fixI ah at_ i = -1) := by unfold Hid fixI; rw [if_pos h1]
    clear h1
    go_enter Ybad.func6, Ybad.ntmps6
    go_wp2
    go_ret
    exact ⟨ret1 e1.out, alloc0 (Below.refl _ _) _⟩
  · have b1 : (i == -1) = false := by simp [h1]
    by_cases h2 : i = 0
    · have b2 : (i == 0) = true := by simp [h2]
      have e1 : Hid (fixI ah at_ i = ah) := by unfold Hid fixI; rw [if_neg h1, if_pos h2]
      clear h1 h2
      go_enter Ybad.func6, Ybad.ntmps6
      go_wp2
      go_ret
      exact ⟨ret1 e1.out, alloc0 (Below.refl _ _) _⟩
    · have b2 : (i == 0) = false := by simp [h2]
      have e1 : Hid (fixI ah at_ i = at_) := by unfold Hid fixI; rw [if_neg h1, if_neg h2]
      clear h1 h2
      go_enter Ybad.func6, Ybad.ntmps6
      go_wp2
      go_ret
      exact ⟨ret1 e1.out, alloc0 (Below.refl _ _) _⟩

theorem zon_yes (i : Int) (w : World) (h : onB i = true) : Calls Ybad.prog 7 #[.int .i64 i] w fun e w' => e = .returned (.bool true) ∧ w' = w := by
  have h' := onB_yes h
  have h1 : -1 ≤ i := h'.1
  have h2 : i ≤ 1 := h'.2
  clear h h'
  go_enter Ybad.func7, Ybad.ntmps7
  go_wp2
  go_ret
  exact ⟨rfl, rfl⟩
theorem zon_no (i : Int) (w : World) (h : onB i = false) : Calls Ybad.prog 7 #[.int .i64 i] w fun e w' => e = .returned (.bool false) ∧ w' = w := by
  have h' := onB_no h
  clear h
  by_cases h1 : -1 ≤ i
  · have h2 : ¬ i ≤ 1 := by omega
    clear h'
    go_enter Ybad.func7, Ybad.ntmps7
    go_wp2
    go_ret
    exact ⟨rfl, rfl⟩
  · clear h'
    go_enter Ybad.func7, Ybad.ntmps7
    go_wp2
    go_ret
    exact ⟨rfl, rfl⟩

set_option maxHeartbeats 2000000 in
theorem zlist_on (h t : Int) (w : World) (e0 : onB h = true) (e1 : onB t = true) :
    Calls Ybad.prog 8 #[.int .i64 h, .int .i64 t] w fun e w' => e = .returned (.int .i64 (listAt h t)) ∧ w' = w := by
  have a0 := onB_yes e0
  have a1 := onB_yes e1
  have c0 : h = -1 ∨ h = 0 ∨ h = 1 := by omega
  have c1 : t = -1 ∨ t = 0 ∨ t = 1 := by omega
  clear a0 a1 e0 e1
  rcases c0 with rfl | rfl | rfl <;> rcases c1 with rfl | rfl | rfl
  all_goals
    go_enter Ybad.func8, Ybad.ntmps8
    go_wp2
    go_ret
    exact ⟨rfl, rfl⟩

/-- What the law's later statements read: 'at' and 'out'. -/
structure Still (w : World) (ob : Nat) (ah at_ : Int) (v0 v1 : Value) (X : World) : Prop where
  bel : Below w.heap.size w X
  a0 : X.cell? ⟨w.heap.size, 0, none⟩ = some (.int .i64 ah)
  a1 : X.cell? ⟨w.heap.size, 1, none⟩ = some (.int .i64 at_)
  o0 : X.cell? ⟨ob, 0, none⟩ = some v0
  o1 : X.cell? ⟨ob, 1, none⟩ = some v1

theorem Still.next {w : World} {ob : Nat} {ah at_ : Int} {v0 v1 : Value} {X Y : World} (h : Still w ob ah at_ v0 v1 X) (hb : Below X.heap.size X Y) : Still w ob ah at_ v0 v1 Y :=
  ⟨h.bel.trans (hb.mono h.bel.size), (hb.cell (World.block_lt_of_cell? _ _ h.a0)).trans h.a0, (hb.cell (World.block_lt_of_cell? _ _ h.a1)).trans h.a1,
    (hb.cell (World.block_lt_of_cell? _ _ h.o0)).trans h.o0, (hb.cell (World.block_lt_of_cell? _ _ h.o1)).trans h.o1⟩

theorem first_two {w w1 : World} {v0 v1 : Value} {o2 : Obj} (hb : Below ((w.alloc (.cells #[v0, v1] 23)).alloc o2).heap.size ((w.alloc (.cells #[v0, v1] 23)).alloc o2) w1) :
    w1.cell? ⟨w.heap.size, 0, none⟩ = some v0 ∧ w1.cell? ⟨w.heap.size, 1, none⟩ = some v1 := by
  obtain ⟨hc, _⟩ := bcell hb
  constructor
  · rw [hc _ _ (by simp; omega), World.cell?_alloc_past _ _ _ (by simp), World.cell?_alloc_at _ _ _ _ rfl]; rfl
  · rw [hc _ _ (by simp; omega), World.cell?_alloc_past _ _ _ (by simp), World.cell?_alloc_at _ _ _ _ rfl]; rfl

theorem still_first {w w1 : World} {ah at_ : Int} {o2 : Obj} {v0 v1 : Value} (hb : Below ((w.alloc (.cells #[.int .i64 ah, .int .i64 at_] 23)).alloc o2).heap.size ((w.alloc (.cells #[.int .i64 ah, .int .i64 at_] 23)).alloc o2) w1) :
    Still w w1.heap.size ah at_ v0 v1 (w1.alloc (.cells #[v0, v1] 26)) := by
  obtain ⟨hc, _⟩ := bcell hb
  obtain ⟨hbw, hz, hz0⟩ := below2 hb
  refine ⟨alloc0 hbw _, ?_, ?_, ?_, ?_⟩
  · rw [World.cell?_alloc_past _ _ _ hz0, hc _ _ (by simp; omega), World.cell?_alloc_past _ _ _ (by simp), World.cell?_alloc_at _ _ _ _ rfl]; rfl
  · rw [World.cell?_alloc_past _ _ _ hz0, hc _ _ (by simp; omega), World.cell?_alloc_past _ _ _ (by simp), World.cell?_alloc_at _ _ _ _ rfl]; rfl
  · rw [World.cell?_alloc_at _ _ _ _ rfl]; rfl
  · rw [World.cell?_alloc_at _ _ _ _ rfl]; rfl

set_option maxHeartbeats 2000000 in
theorem exact_host (ah at_ rh rt : Int) (w : World) (e0 : onB (fixI ah at_ rh) = false) :
    Calls Ybad.prog 3 #[.int .i64 ah, .int .i64 at_, .int .i64 rh, .int .i64 rt] w fun e w' => e = .returned (.bool true) ∧ Below w.heap.size w w' := by
  go_enter Ybad.func3, Ybad.ntmps3
  go_wp2_with fail
  refine (prop_host ah at_ rh rt _ e0).mono ?_
  rintro e w1 ⟨rfl, hb⟩
  have S1 := still_first (v0 := .bool false) (v1 := .int .i64 (fixI ah at_ rh)) hb
  have q0 : w1.cell? ⟨w.heap.size, 0, none⟩ = some (.int .i64 ah) := ((first_two hb).1)
  have q1 : w1.cell? ⟨w.heap.size, 1, none⟩ = some (.int .i64 at_) := ((first_two hb).2)
  have hz0 : w.heap.size < w1.heap.size := (below2 hb).2.2
  clear hb
  go_wp2_with fail
  refine (zfix_any ah at_ rh _).mono ?_
  rintro e w2 ⟨rfl, hb2⟩
  have S2 := S1.next hb2
  have q0 := S2.a0
  have q1 := S2.a1
  clear S1 hb2
  go_wp2_with fail
  refine (zfix_any ah at_ rt _).mono ?_
  rintro e w3 ⟨rfl, hb3⟩
  have S3 := S2.next hb3
  have r0 := S3.o0
  have r1 := S3.o1
  clear S2 hb3
  go_wp2_with fail
  refine (zon_no _ _ e0).mono ?_
  rintro e w4 ⟨rfl, rfl⟩
  go_wp2_with fail
  go_ret
  exact ⟨rfl, S3.bel⟩
set_option maxHeartbeats 2000000 in
theorem exact_target (ah at_ rh rt : Int) (w : World) (e0 : onB (fixI ah at_ rh) = true) (e1 : onB (fixI ah at_ rt) = false) :
    Calls Ybad.prog 3 #[.int .i64 ah, .int .i64 at_, .int .i64 rh, .int .i64 rt] w fun e w' => e = .returned (.bool true) ∧ Below w.heap.size w w' := by
  go_enter Ybad.func3, Ybad.ntmps3
  go_wp2_with fail
  refine (prop_target ah at_ rh rt _ e0 e1).mono ?_
  rintro e w1 ⟨rfl, hb⟩
  have S1 := still_first (v0 := .bool true) (v1 := .int .i64 (fixI ah at_ rt)) hb
  have q0 : w1.cell? ⟨w.heap.size, 0, none⟩ = some (.int .i64 ah) := ((first_two hb).1)
  have q1 : w1.cell? ⟨w.heap.size, 1, none⟩ = some (.int .i64 at_) := ((first_two hb).2)
  have hz0 : w.heap.size < w1.heap.size := (below2 hb).2.2
  clear hb
  go_wp2_with fail
  refine (zfix_any ah at_ rh _).mono ?_
  rintro e w2 ⟨rfl, hb2⟩
  have S2 := S1.next hb2
  have q0 := S2.a0
  have q1 := S2.a1
  clear S1 hb2
  go_wp2_with fail
  refine (zfix_any ah at_ rt _).mono ?_
  rintro e w3 ⟨rfl, hb3⟩
  have S3 := S2.next hb3
  have r0 := S3.o0
  have r1 := S3.o1
  clear S2 hb3
  go_wp2_with fail
  refine (zon_yes _ _ e0).mono ?_
  rintro e w4 ⟨rfl, rfl⟩
  go_wp2_with fail
  refine (zon_no _ _ e1).mono ?_
  rintro e w5 ⟨rfl, rfl⟩
  go_wp2_with fail
  go_ret
  exact ⟨rfl, S3.bel⟩
set_option maxHeartbeats 2000000 in
theorem exact_on (ah at_ rh rt : Int) (w : World) (hT : TabIs w) (h0 : 0 < w.heap.size) (e0 : onB (fixI ah at_ rh) = true) (e1 : onB (fixI ah at_ rt) = true) :
    Calls Ybad.prog 3 #[.int .i64 ah, .int .i64 at_, .int .i64 rh, .int .i64 rt] w fun e w' => e = .returned (.bool true) ∧ Below w.heap.size w w' := by
  have HT : Hid (TabIs w) := hT
  clear hT
  go_enter Ybad.func3, Ybad.ntmps3
  go_wp2_with fail
  refine (prop_on ah at_ rh rt _ ?_ ?_ e0 e1).mono ?_
  · exact HT.out.below h0 (alloc0 (alloc0 (Below.refl _ _) _) _)
  · simp
  rintro e w1 ⟨rfl, hb⟩
  have S1 := still_first (v0 := .bool false) (v1 := .int .i64 0) hb
  have q0 : w1.cell? ⟨w.heap.size, 0, none⟩ = some (.int .i64 ah) := ((first_two hb).1)
  have q1 : w1.cell? ⟨w.heap.size, 1, none⟩ = some (.int .i64 at_) := ((first_two hb).2)
  have hz0 : w.heap.size < w1.heap.size := (below2 hb).2.2
  clear hb
  go_wp2_with fail
  refine (zfix_any ah at_ rh _).mono ?_
  rintro e w2 ⟨rfl, hb2⟩
  have S2 := S1.next hb2
  have q0 := S2.a0
  have q1 := S2.a1
  clear S1 hb2
  go_wp2_with fail
  refine (zfix_any ah at_ rt _).mono ?_
  rintro e w3 ⟨rfl, hb3⟩
  have S3 := S2.next hb3
  have r0 := S3.o0
  have r1 := S3.o1
  clear S2 hb3
  go_wp2_with fail
  refine (zon_yes _ _ e0).mono ?_
  rintro e w4 ⟨rfl, rfl⟩
  go_wp2_with fail
  refine (zon_yes _ _ e1).mono ?_
  rintro e w5 ⟨rfl, rfl⟩
  go_wp2_with fail
  refine (zlist_on _ _ _ e0 e1).mono ?_
  rintro e w6 ⟨rfl, rfl⟩
  go_wp2_with fail
  go_ret
  exact ⟨rfl, S3.bel⟩
theorem exact_any (ah at_ rh rt : Int) (w : World) (hT : TabIs w) (h0 : 0 < w.heap.size) :
    Calls Ybad.prog 3 #[.int .i64 ah, .int .i64 at_, .int .i64 rh, .int .i64 rt] w fun e w' => e = .returned (.bool true) ∧ Below w.heap.size w w' := by
  cases e0 : onB (fixI ah at_ rh) with
  | false => exact exact_host ah at_ rh rt w e0
  | true =>
    cases e1 : onB (fixI ah at_ rt) with
    | false => exact exact_target ah at_ rh rt w e0 e1
    | true => exact exact_on ah at_ rh rt w hT h0 e0 e1
end Go.Proofs.YbulkbehmDoor
