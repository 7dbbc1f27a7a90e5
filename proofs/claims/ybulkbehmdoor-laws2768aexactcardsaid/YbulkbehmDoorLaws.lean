/-
  The two laws walked: 'LawS2768ABuildStays' (function 4), 'LawS2768AExact' (function 3).
-/
import Derived.Test.YbulkbehmDoorProp
namespace Go.Proofs.YbulkbehmDoor
open Go.RowKit

theorem prop_build (ah at_ : Int) (w : World) (hT : TabIs w) (h0 : 0 < w.heap.size) :
    Calls Ybad.prog 5 #[.agg #[.int .i64 ah, .int .i64 at_], .agg #[.int .i64 (-1), .int .i64 (-1)]] w fun e w' => e = .returned (.tuple #[.int .i64 0, .agg #[.bool false, .int .i64 0], .bool true]) ∧ Below w.heap.size w w' :=
  prop_on ah at_ (-1) (-1) w hT h0 rfl rfl

set_option maxHeartbeats 1000000 in
theorem build_stays (ah at_ : Int) (w : World) (hT : TabIs w) (h0 : 0 < w.heap.size) :
    Calls Ybad.prog 4 #[.int .i64 ah, .int .i64 at_] w fun e w' => e = .returned (.bool true) ∧ Below w.heap.size w w' := by
  have HT : Hid (TabIs w) := hT
  clear hT
  go_enter Ybad.func4, Ybad.ntmps4
  go_wp2_with fail
  refine (prop_build ah at_ _ ?_ ?_).mono ?_
  · exact HT.out.below h0 (alloc0 (Below.refl _ _) _)
  · simp
  rintro e w1 ⟨rfl, hb⟩
  have hbw : Below w.heap.size w w1 := (alloc0 (Below.refl _ _) _).trans (hb.mono (by simp))
  clear hb
  go_wp2
  go_ret
  refine ⟨rfl, ?_⟩
  repeat (first | exact hbw | refine Below.drew ?_ | refine Below.setCell ?_ (by simp; omega) _ | refine alloc0 ?_ _)
end Go.Proofs.YbulkbehmDoor
