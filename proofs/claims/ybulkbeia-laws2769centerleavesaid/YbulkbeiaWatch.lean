/-
  The callWatch's own words: sync/atomic's methods on its first three fields, 'enter' and 'leave'.
-/
import Derived.Test.YbulkbeiaProg
import Derived.WalkKit
import Derived.WalkLawsBesides
import Derived.Outline
import Derived.Laws.LoneSync
import Derived.RegionTactic
import Derived.Deep.RegionWith
namespace Go.Proofs.Ybulkbeia
open Go.RowKit

theorem store64 (b o : Nat) (y : Int) (u : Value) (w : World) (hc : w.cell? ⟨b, o, none⟩ = some u) (hz : w.frozen? ⟨b, o, none⟩ = false) :
    Calls Yba.prog 5 #[.pointer (some ⟨b, o, none⟩), .int .u64 y] w fun e w' => e = .returned (.tuple #[]) ∧ w' = w.setCell ⟨b, o, none⟩ (.int .u64 y) := by
  have hs := run_call_store (P := Yba.prog) Yba.func11 (by kernel_rfl) (by kernel_rfl) (by kernel_rfl) (by kernel_rfl) (k := .u64) (y := y) hc hz
  go_enter Yba.func5, Yba.ntmps5
  go_wp2
  go_end0
  exact ⟨rfl, rfl⟩

theorem load64 (b o : Nat) (x : Int) (w : World) (hc : w.cell? ⟨b, o, none⟩ = some (.int .u64 x)) :
    Calls Yba.prog 8 #[.pointer (some ⟨b, o, none⟩)] w fun e w' => e = .returned (.int .u64 x) ∧ w' = w := by
  have hs := run_call_load (P := Yba.prog) Yba.func15 (by kernel_rfl) (by kernel_rfl) (by kernel_rfl) .u64 (by kernel_rfl) hc
  go_enter Yba.func8, Yba.ntmps8
  go_wp2
  go_ret
  exact ⟨rfl, rfl⟩

theorem loadB (b o : Nat) (x : Int) (v : Bool) (w : World) (hc : w.cell? ⟨b, o, none⟩ = some (.int .u32 x)) (hx : (x != 0) = v) :
    Calls Yba.prog 9 #[.pointer (some ⟨b, o, none⟩)] w fun e w' => e = .returned (.bool v) ∧ w' = w := by
  have hs := run_call_load (P := Yba.prog) Yba.func16 (by kernel_rfl) (by kernel_rfl) (by kernel_rfl) .u32 (by kernel_rfl) hc
  go_enter Yba.func9, Yba.ntmps9
  go_wp2
  go_ret
  exact ⟨rfl, rfl⟩

def bit : Bool → Int | true => 1 | false => 0

theorem storeB (b o : Nat) (v : Bool) (u : Value) (w : World) (hc : w.cell? ⟨b, o, none⟩ = some u) (hz : w.frozen? ⟨b, o, none⟩ = false) :
    Calls Yba.prog 6 #[.pointer (some ⟨b, o, none⟩), .bool v] w fun e w' => e = .returned (.tuple #[]) ∧ w' = (w.setCell ⟨b, o, none⟩ (.int .u32 (bit v))).drew := by
  cases v
  all_goals
    have hs1 := run_call_store (P := Yba.prog) (w := w.drew) Yba.func12 (by kernel_rfl) (by kernel_rfl) (by kernel_rfl) (by kernel_rfl) (k := .u32) (y := 1) hc hz
    have hs0 := run_call_store (P := Yba.prog) (w := w.drew) Yba.func12 (by kernel_rfl) (by kernel_rfl) (by kernel_rfl) (by kernel_rfl) (k := .u32) (y := 0) hc hz
    go_enter Yba.func6, Yba.ntmps6
    go_wp2
    go_region_calls
    go_wp2
    go_end0
    exact ⟨rfl, rfl⟩

theorem add64 (b o : Nat) (x : Int) (w : World) (hc : w.cell? ⟨b, o, none⟩ = some (.int .u64 x)) (hz : w.frozen? ⟨b, o, none⟩ = false) :
    Calls Yba.prog 14 #[.pointer (some ⟨b, o, none⟩), .int .u64 1] w fun e w' => e = .returned (.int .u64 (IntKind.u64.wrap (x + 1))) ∧ w' = w.setCell ⟨b, o, none⟩ (.int .u64 (IntKind.u64.wrap (x + 1))) := by
  have hs := run_call_add (P := Yba.prog) Yba.func18 (by kernel_rfl) (by kernel_rfl) (by kernel_rfl) .u64 (by kernel_rfl) (x := x) (y := 1) (s := IntKind.u64.wrap (x + 1)) hc hz (by simp [go_sem])
  go_enter Yba.func14, Yba.ntmps14
  go_wp2
  go_ret
  exact ⟨rfl, rfl⟩

theorem cas64 (b o : Nat) (x y : Int) (w : World) (hc : w.cell? ⟨b, o, none⟩ = some (.int .u64 x)) (hz : w.frozen? ⟨b, o, none⟩ = false) :
    Calls Yba.prog 17 #[.pointer (some ⟨b, o, none⟩), .int .u64 x, .int .u64 y] w fun e w' => e = .returned (.bool true) ∧ w' = w.setCell ⟨b, o, none⟩ (.int .u64 y) := by
  have hs := run_call_cas_hit (P := Yba.prog) Yba.func19 (by kernel_rfl) (by kernel_rfl) (by kernel_rfl) .u64 (by kernel_rfl) (y := y) hc hz
  go_enter Yba.func17, Yba.ntmps17
  go_wp2
  go_ret
  exact ⟨rfl, rfl⟩

/-! ### The watch that the law itself lays, at the heap's end when the call began -/

structure Watch (w : World) (s c h : Int) (X : World) : Prop where
  bel : Below w.heap.size w X
  c0 : X.cell? ⟨w.heap.size, 0, none⟩ = some (.int .u64 s)
  c1 : X.cell? ⟨w.heap.size, 1, none⟩ = some (.int .u64 c)
  c2 : X.cell? ⟨w.heap.size, 2, none⟩ = some (.int .u32 h)
  z0 : X.frozen? ⟨w.heap.size, 0, none⟩ = false
  z1 : X.frozen? ⟨w.heap.size, 1, none⟩ = false
  z2 : X.frozen? ⟨w.heap.size, 2, none⟩ = false

theorem watch_new (w : World) (v3 v4 v5 v6 : Value) : Watch w 0 0 0 (w.alloc (.cells #[.int .u64 0, .int .u64 0, .int .u32 0, v3, v4, v5, v6] 34)) :=
  ⟨(Below.refl _ _).alloc (Nat.le_refl _) _, by simp [go_sem], by simp [go_sem], by simp [go_sem], by simp [go_sem], by simp [go_sem], by simp [go_sem]⟩

variable {w X : World} {s c h : Int}
theorem Watch.set0 (W : Watch w s c h X) (y : Int) : Watch w y c h (X.setCell ⟨w.heap.size, 0, none⟩ (.int .u64 y)) :=
  ⟨W.bel.setCell (Nat.le_refl _) _, by simp [go_sem, W.c0], by simp [go_sem, W.c1], by simp [go_sem, W.c2], by simp [go_sem, W.z0], by simp [go_sem, W.z1], by simp [go_sem, W.z2]⟩
theorem Watch.set1 (W : Watch w s c h X) (y : Int) : Watch w s y h (X.setCell ⟨w.heap.size, 1, none⟩ (.int .u64 y)) :=
  ⟨W.bel.setCell (Nat.le_refl _) _, by simp [go_sem, W.c0], by simp [go_sem, W.c1], by simp [go_sem, W.c2], by simp [go_sem, W.z0], by simp [go_sem, W.z1], by simp [go_sem, W.z2]⟩
theorem Watch.set2 (W : Watch w s c h X) (y : Int) : Watch w s c y (X.setCell ⟨w.heap.size, 2, none⟩ (.int .u32 y)) :=
  ⟨W.bel.setCell (Nat.le_refl _) _, by simp [go_sem, W.c0], by simp [go_sem, W.c1], by simp [go_sem, W.c2], by simp [go_sem, W.z0], by simp [go_sem, W.z1], by simp [go_sem, W.z2]⟩
theorem Watch.drew (W : Watch w s c h X) : Watch w s c h X.drew := ⟨W.bel.drew, W.c0, W.c1, W.c2, W.z0, W.z1, W.z2⟩

theorem store0 (W : Watch w s c h X) (y : Int) : Calls Yba.prog 5 #[.pointer (some ⟨w.heap.size, 0, none⟩), .int .u64 y] X fun e w' => e = .returned (.tuple #[]) ∧ Watch w y c h w' :=
  (store64 _ _ y _ X W.c0 W.z0).mono fun _ _ ⟨he, hw⟩ => ⟨he, by rw [hw]; exact W.set0 y⟩
theorem store1 (W : Watch w s c h X) (y : Int) : Calls Yba.prog 5 #[.pointer (some ⟨w.heap.size, 1, none⟩), .int .u64 y] X fun e w' => e = .returned (.tuple #[]) ∧ Watch w s y h w' :=
  (store64 _ _ y _ X W.c1 W.z1).mono fun _ _ ⟨he, hw⟩ => ⟨he, by rw [hw]; exact W.set1 y⟩
theorem store2 (W : Watch w s c h X) (v : Bool) : Calls Yba.prog 6 #[.pointer (some ⟨w.heap.size, 2, none⟩), .bool v] X fun e w' => e = .returned (.tuple #[]) ∧ Watch w s c (bit v) w' :=
  (storeB _ _ v _ X W.c2 W.z2).mono fun _ _ ⟨he, hw⟩ => ⟨he, by rw [hw]; exact (W.set2 (bit v)).drew⟩
theorem add0 (W : Watch w s c h X) : Calls Yba.prog 14 #[.pointer (some ⟨w.heap.size, 0, none⟩), .int .u64 1] X fun e w' => e = .returned (.int .u64 (IntKind.u64.wrap (s + 1))) ∧ Watch w (IntKind.u64.wrap (s + 1)) c h w' :=
  (add64 _ _ s X W.c0 W.z0).mono fun _ _ ⟨he, hw⟩ => ⟨he, by rw [hw]; exact W.set0 _⟩
theorem cas0 (W : Watch w s c h X) (y : Int) : Calls Yba.prog 17 #[.pointer (some ⟨w.heap.size, 0, none⟩), .int .u64 s, .int .u64 y] X fun e w' => e = .returned (.bool true) ∧ Watch w y c h w' :=
  (cas64 _ _ s y X W.c0 W.z0).mono fun _ _ ⟨he, hw⟩ => ⟨he, by rw [hw]; exact W.set0 y⟩

/-- 'enter' at a watch on which the run has given up. -/
theorem enter_held (W : Watch w s c 1 X) (f : Int) : Calls Yba.prog 7 #[.pointer (some ⟨w.heap.size, 0, none⟩), .int .u64 f] X fun e w' => e = .returned (.tuple #[.int .u64 0, .bool false]) ∧ w' = X := by
  go_enter Yba.func7, Yba.ntmps7
  go_wp2_with fail
  refine (loadB _ _ 1 true _ W.c2 rfl).mono ?_
  rintro e w' ⟨rfl, rfl⟩
  go_wp2_with fail
  go_ret2
  exact ⟨rfl, rfl⟩

/-- 'enter' else. -/
theorem enter_free (W : Watch w s c 0 X) (f : Int) : Calls Yba.prog 7 #[.pointer (some ⟨w.heap.size, 0, none⟩), .int .u64 f] X fun e w' => e = .returned (.tuple #[.int .u64 (IntKind.u64.wrap (s + 1)), .bool true]) ∧ Watch w (IntKind.u64.wrap (s + 1)) f 0 w' := by
  go_enter Yba.func7, Yba.ntmps7
  go_wp2_with fail
  refine (loadB _ _ 0 false _ W.c2 rfl).mono ?_
  rintro e w' ⟨rfl, rfl⟩
  go_wp2_with fail
  refine (store1 W f).mono ?_
  rintro e w1 ⟨rfl, W1⟩
  go_wp2_with fail
  refine (add0 W1).mono ?_
  rintro e w2 ⟨rfl, W2⟩
  go_wp2_with fail
  go_ret2
  exact ⟨rfl, W2⟩
end Go.Proofs.Ybulkbeia
