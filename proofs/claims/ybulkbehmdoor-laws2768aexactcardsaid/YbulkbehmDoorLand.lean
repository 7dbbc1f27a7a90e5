/-
  'outsideOf', 'landAt', the closure of 'propagateFixedBuild', 'propagateFixedBuild'.
-/
import Derived.Test.YbulkbehmDoorWalks
namespace Go.Proofs.YbulkbehmDoor
open Go.RowKit

set_option maxHeartbeats 1000000 in
theorem outside_host (h t : Int) (w : World) (e0 : onB h = false) :
    Calls Ybad.prog 11 #[.agg #[.int .i64 h, .int .i64 t]] w fun e w' => e = .returned (.tuple #[.agg #[.bool false, .int .i64 h], .bool true]) ∧ Below w.heap.size w w' := by
  go_enter Ybad.func11, Ybad.ntmps11
  go_wp2_with (go_at_call 13; refine (on_no _ _ e0).mono ?_; rintro e w' ⟨rfl, rfl⟩)
  exact bodyPost_ret (v := .tuple #[.agg #[.bool false, .int .i64 h], .bool true]) (by simp [results, Ybad.results11, go_sem]) rfl ⟨rfl, ((Below.refl _ _).alloc (Nat.le_refl _) _).alloc (by simp) _⟩

set_option maxHeartbeats 1000000 in
theorem outside_target (h t : Int) (w : World) (e0 : onB h = true) (e1 : onB t = false) :
    Calls Ybad.prog 11 #[.agg #[.int .i64 h, .int .i64 t]] w fun e w' => e = .returned (.tuple #[.agg #[.bool true, .int .i64 t], .bool true]) ∧ Below w.heap.size w w' := by
  go_enter Ybad.func11, Ybad.ntmps11
  go_wp2_with fail
  refine (on_yes _ _ e0).mono ?_
  rintro e w' ⟨rfl, rfl⟩
  go_wp2_with fail
  refine (on_no _ _ e1).mono ?_
  rintro e w' ⟨rfl, rfl⟩
  go_wp2_with fail
  exact bodyPost_ret (v := .tuple #[.agg #[.bool true, .int .i64 t], .bool true]) (by simp [results, Ybad.results11, go_sem]) rfl ⟨rfl, ((Below.refl _ _).alloc (Nat.le_refl _) _).alloc (by simp) _⟩

set_option maxHeartbeats 1000000 in
theorem outside_none (h t : Int) (w : World) (e0 : onB h = true) (e1 : onB t = true) :
    Calls Ybad.prog 11 #[.agg #[.int .i64 h, .int .i64 t]] w fun e w' => e = .returned (.tuple #[.agg #[.bool false, .int .i64 0], .bool false]) ∧ Below w.heap.size w w' := by
  go_enter Ybad.func11, Ybad.ntmps11
  go_wp2_with fail
  refine (on_yes _ _ e0).mono ?_
  rintro e w' ⟨rfl, rfl⟩
  go_wp2_with fail
  refine (on_yes _ _ e1).mono ?_
  rintro e w' ⟨rfl, rfl⟩
  go_wp2_with fail
  exact bodyPost_ret (v := .tuple #[.agg #[.bool false, .int .i64 0], .bool false]) (by simp [results, Ybad.results11, go_sem]) rfl ⟨rfl, ((Below.refl _ _).alloc (Nat.le_refl _) _).alloc (by simp) _⟩

theorem bcell {W w1 : World} (hb : Below W.heap.size W w1) : (∀ b o, b < W.heap.size → w1.cell? ⟨b, o, none⟩ = W.cell? ⟨b, o, none⟩) ∧ (∀ b o, b < W.heap.size → w1.frozen? ⟨b, o, none⟩ = W.frozen? ⟨b, o, none⟩) :=
  ⟨fun b o h => hb.cell (p := ⟨b, o, none⟩) h, fun b o h => hb.frozen (p := ⟨b, o, none⟩) h⟩

theorem alloc0 {w w' : World} (h : Below w.heap.size w w') (o : Obj) : Below w.heap.size w (w'.alloc o) := h.alloc h.size o

theorem below2 {w w1 : World} {o1 o2 : Obj} (hb : Below ((w.alloc o1).alloc o2).heap.size ((w.alloc o1).alloc o2) w1) : Below w.heap.size w w1 ∧ w.heap.size + 1 < w1.heap.size ∧ w.heap.size < w1.heap.size :=
  ⟨(((Below.refl _ _).alloc (Nat.le_refl _) _).alloc (by simp) _).trans (hb.mono (by simp; omega)), by have := hb.size; simp at this; omega, by have := hb.size; simp at this; omega⟩

set_option maxHeartbeats 1000000 in
theorem land_host (h t : Int) (w : World) (e0 : onB h = false) :
    Calls Ybad.prog 10 #[.agg #[.int .i64 h, .int .i64 t]] w fun e w' => e = .returned (.tuple #[.int .i64 0, .agg #[.bool false, .int .i64 h], .bool false]) ∧ Below w.heap.size w w' := by
  go_enter Ybad.func10, Ybad.ntmps10
  go_wp2_with fail
  refine (outside_host h t _ e0).mono ?_
  rintro e w1 ⟨rfl, hb⟩
  obtain ⟨hc, hf⟩ := bcell hb
  obtain ⟨hbw, hz, hz0⟩ := below2 hb
  go_wp2
  go_region
  go_wp2
  refine bodyPost_ret (v := .tuple #[.int .i64 0, .agg #[.bool false, .int .i64 h], .bool false]) (by simp [results, Ybad.results10, go_sem, hc, hz]) rfl ⟨rfl, ?_⟩
  repeat (first | exact hbw | refine Below.drew ?_ | refine Below.setCell ?_ (by simp) _ | refine alloc0 ?_ _)

set_option maxHeartbeats 1000000 in
theorem land_target (h t : Int) (w : World) (e0 : onB h = true) (e1 : onB t = false) :
    Calls Ybad.prog 10 #[.agg #[.int .i64 h, .int .i64 t]] w fun e w' => e = .returned (.tuple #[.int .i64 0, .agg #[.bool true, .int .i64 t], .bool false]) ∧ Below w.heap.size w w' := by
  go_enter Ybad.func10, Ybad.ntmps10
  go_wp2_with fail
  refine (outside_target h t _ e0 e1).mono ?_
  rintro e w1 ⟨rfl, hb⟩
  obtain ⟨hc, hf⟩ := bcell hb
  obtain ⟨hbw, hz, hz0⟩ := below2 hb
  go_wp2
  go_region
  go_wp2
  refine bodyPost_ret (v := .tuple #[.int .i64 0, .agg #[.bool true, .int .i64 t], .bool false]) (by simp [results, Ybad.results10, go_sem, hc, hz]) rfl ⟨rfl, ?_⟩
  repeat (first | exact hbw | refine Below.drew ?_ | refine Below.setCell ?_ (by simp) _ | refine alloc0 ?_ _)

set_option maxHeartbeats 1000000 in
theorem land_on (h t : Int) (w : World) (hT : TabIs w) (h0 : 0 < w.heap.size) (e0 : onB h = true) (e1 : onB t = true) :
    Calls Ybad.prog 10 #[.agg #[.int .i64 h, .int .i64 t]] w fun e w' => e = .returned (.tuple #[.int .i64 (listAt h t), .agg #[.bool false, .int .i64 0], .bool true]) ∧ Below w.heap.size w w' := by
  have HT : Hid (TabIs w) := hT
  clear hT
  go_enter Ybad.func10, Ybad.ntmps10
  go_wp2_with fail
  refine (outside_none h t _ e0 e1).mono ?_
  rintro e w1 ⟨rfl, hb⟩
  obtain ⟨hc, hf⟩ := bcell hb
  obtain ⟨hbw, hz, hz0⟩ := below2 hb
  go_wp2_with fail
  refine (at_any h t _ (fun i hi => ?_) ?_).mono ?_
  · rw [World.cell?_alloc_past _ _ _ (by omega), World.cell?_alloc_past _ _ _ (by omega), hbw.cell (p := ⟨0, i * 3 + 1, none⟩) h0, hbw.cell (p := ⟨0, i * 3 + 1 + 1, none⟩) h0]
    exact HT.out i hi
  · simp
  rintro e w2 ⟨ok, rfl, hb2⟩
  have hbw2 : Below w.heap.size w w2 := (alloc0 hbw _).trans (hb2.mono (by simp; omega))
  obtain ⟨hc2, hf2⟩ := bcell hb2
  have hz2 : w.heap.size + 1 < w2.heap.size := by have := hb2.size; simp at this; omega
  have p0 : w2.cell? ⟨w.heap.size + 1, 0, none⟩ = some (.bool false) := by
    rw [hc2 _ _ (by simp; omega), World.cell?_alloc_past _ _ _ hz, hc _ _ (by simp), World.cell?_alloc_at _ _ _ _ (by simp)]; rfl
  have p1 : w2.cell? ⟨w.heap.size + 1, 1, none⟩ = some (.int .i64 0) := by
    rw [hc2 _ _ (by simp; omega), World.cell?_alloc_past _ _ _ hz, hc _ _ (by simp), World.cell?_alloc_at _ _ _ _ (by simp)]; rfl
  go_wp2_with fail
  refine bodyPost_ret (v := .tuple #[.int .i64 (listAt h t), .agg #[.bool false, .int .i64 0], .bool true]) (by simp [results, Ybad.results10, go_sem, p0, p1]) rfl ⟨rfl, ?_⟩
  repeat (first | exact hbw2 | refine Below.drew ?_ | refine Below.setCell ?_ (by simp) _ | refine alloc0 ?_ _)
end Go.Proofs.YbulkbehmDoor
