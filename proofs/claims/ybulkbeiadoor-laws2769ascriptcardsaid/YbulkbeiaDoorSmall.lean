/-
  The small functions on the road: (*atomic.Int32).Load, .Add, ownBit of a reason that bears a name, the law's own index.
-/
import Derived.Test.YbulkbeiaDoorProg
import Derived.WalkKit
import Derived.WalkLawsBesides
import Derived.Outline
import Derived.Laws.LoneSync
import Derived.RegionTactic
import Derived.Deep.RegionWith
import Derived.Below
namespace Go.Proofs.YbulkbeiaDoor
open Go.RowKit

theorem load32 (b o : Nat) (x : Int) (w : World) (hc : w.cell? ⟨b, o, none⟩ = some (.int .i32 x)) :
    Calls Ybad.prog 8 #[.pointer (some ⟨b, o, none⟩)] w fun e w' => e = .returned (.int .i32 x) ∧ w' = w := by
  have hs := run_call_load (P := Ybad.prog) Ybad.func12 (by kernel_rfl) (by kernel_rfl) (by kernel_rfl) .i32 (by kernel_rfl) hc
  go_enter Ybad.func8, Ybad.ntmps8
  go_wp2
  go_ret
  exact ⟨rfl, rfl⟩

theorem add32 (b o : Nat) (x y : Int) (w : World) (hc : w.cell? ⟨b, o, none⟩ = some (.int .i32 x)) (hz : w.frozen? ⟨b, o, none⟩ = false) :
    Calls Ybad.prog 25 #[.pointer (some ⟨b, o, none⟩), .int .i32 y] w fun e w' => e = .returned (.int .i32 (wrap32 (x + y))) ∧ w' = w.setCell ⟨b, o, none⟩ (.int .i32 (wrap32 (x + y))) := by
  have hs := run_call_add (P := Ybad.prog) Ybad.func23 (by kernel_rfl) (by kernel_rfl) (by kernel_rfl) .i32 (by kernel_rfl) (x := x) (y := y) (s := wrap32 (x + y)) hc hz (by simp [go_sem, wrap32, IntKind.wrap_i32])
  go_enter Ybad.func25, Ybad.ntmps25
  go_wp2
  go_ret
  exact ⟨rfl, rfl⟩

theorem ownBit_any (c s : ByteArray) (w : World) (hc : (c.toList == []) = false) :
    Calls Ybad.prog 15 #[.agg #[.string c, .string s]] w fun e w' => e = .returned (.int .u8 0) ∧ w' = w.alloc (.cells #[.string c, .string s] 50) := by
  go_enter Ybad.func15, Ybad.ntmps15
  go_wp2
  go_ret
  exact ⟨rfl, rfl⟩
end Go.Proofs.YbulkbeiaDoor
