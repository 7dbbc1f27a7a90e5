/-
  NodeOf (13), ScalarText (16), Lookup (15).
-/
import Derived.Test.YbulkbegyNames
import Derived.Deep.QuietTactic
import Derived.BigQuiet
import Derived.RegionTactic
import Derived.BigRegion
import Derived.LoopTactic
import Derived.WalkSpells
namespace Go.Proofs.Ybulkbegy
open Go.RowKit

/-! Which type an interface value holds: one closed fact a question. -/
theorem as29_29 (v : Value) (w : World) : (Instr.typeAssert (.iface 29 v) 46 29 true).run Yba.prog w = .ok (.tuple #[v, .bool true]) w := by kernel_rfl
theorem as30_29 (v : Value) (w : World) : (Instr.typeAssert (.iface 30 v) 46 29 true).run Yba.prog w = .ok (.tuple #[.pointer none, .bool false]) w := by kernel_rfl
theorem as56_29 (v : Value) (w : World) : (Instr.typeAssert (.iface 56 v) 46 29 true).run Yba.prog w = .ok (.tuple #[.pointer none, .bool false]) w := by kernel_rfl
theorem as60_29 (v : Value) (w : World) : (Instr.typeAssert (.iface 60 v) 46 29 true).run Yba.prog w = .ok (.tuple #[.pointer none, .bool false]) w := by kernel_rfl
theorem as30_56 (v : Value) (w : World) : (Instr.typeAssert (.iface 30 v) 46 56 true).run Yba.prog w = .ok (.tuple #[.pointer none, .bool false]) w := by kernel_rfl
theorem as56_56 (v : Value) (w : World) : (Instr.typeAssert (.iface 56 v) 46 56 true).run Yba.prog w = .ok (.tuple #[v, .bool true]) w := by kernel_rfl
theorem as60_56 (v : Value) (w : World) : (Instr.typeAssert (.iface 60 v) 46 56 true).run Yba.prog w = .ok (.tuple #[.pointer none, .bool false]) w := by kernel_rfl
theorem as30_30 (v : Value) (w : World) : (Instr.typeAssert (.iface 30 v) 46 30 true).run Yba.prog w = .ok (.tuple #[v, .bool true]) w := by kernel_rfl
theorem as29_30 (v : Value) (w : World) : (Instr.typeAssert (.iface 29 v) 46 30 true).run Yba.prog w = .ok (.tuple #[.pointer none, .bool false]) w := by kernel_rfl
theorem as56_30 (v : Value) (w : World) : (Instr.typeAssert (.iface 56 v) 46 30 true).run Yba.prog w = .ok (.tuple #[.pointer none, .bool false]) w := by kernel_rfl
theorem is30_30 (v : Value) (w : World) : (Instr.typeAssert (.iface 30 v) 46 30 false).run Yba.prog w = .ok v w := by kernel_rfl

theorem nodeOf_node (a : Addr) (w : World) :
    Calls Yba.prog 13 #[.iface 29 (.pointer (some a))] w fun e w' => e = .returned (.tuple #[.pointer (some a), .bool true]) ∧ w' = w := by
  have t0 := as29_29
  go_enter Yba.func13, Yba.ntmps13
  go_wp2
  go_ret2
  exact ⟨rfl, rfl⟩

theorem nodeOf_scalar (v : Value) (w : World) :
    Calls Yba.prog 13 #[.iface 30 v] w fun e w' => e = .returned (.tuple #[.pointer none, .bool false]) ∧ w' = w := by
  have t0 := as30_29
  have t1 := as30_56
  go_enter Yba.func13, Yba.ntmps13
  go_wp2
  go_ret2
  exact ⟨rfl, rfl⟩

theorem nodeOf_cast (v : Value) (w : World) :
    Calls Yba.prog 13 #[.iface 60 v] w fun e w' => e = .returned (.tuple #[.pointer none, .bool false]) ∧ w' = w := by
  have t0 := as60_29
  have t1 := as60_56
  go_enter Yba.func13, Yba.ntmps13
  go_wp2
  go_ret2
  exact ⟨rfl, rfl⟩

theorem nodeOf_full (b : Nat) (x : Option Addr) (c : Nat) (w : World) (h3 : w.cell? ⟨b, 3, none⟩ = some (.slice x 1 c)) :
    Calls Yba.prog 13 #[.iface 56 (.pointer (some ⟨b, 0, none⟩))] w fun e w' => e = .returned (.tuple #[.pointer none, .bool false]) ∧ w' = w := by
  have t0 := as56_29
  have t1 := as56_56
  go_enter Yba.func13, Yba.ntmps13
  go_wp2
  go_ret2
  exact ⟨rfl, rfl⟩

set_option maxHeartbeats 1000000 in
theorem nodeOf_empty (b : Nat) (w : World) (h0 : w.cell? ⟨b, 0, none⟩ = some (.int .i64 0)) (h1 : w.cell? ⟨b, 1, none⟩ = some (.int .i64 0)) (h2 : w.cell? ⟨b, 2, none⟩ = some (.int .i64 0))
    (h3 : w.cell? ⟨b, 3, none⟩ = some (.slice none 0 0)) (h4 : w.cell? ⟨b, 4, none⟩ = some (.int .i64 0)) (h5 : w.cell? ⟨b, 5, none⟩ = some (.int .i64 0)) (h6 : w.cell? ⟨b, 6, none⟩ = some (.int .i64 0)) :
    Calls Yba.prog 13 #[.iface 56 (.pointer (some ⟨b, 0, none⟩))] w fun e w' => e = .returned (.tuple #[.pointer (some ⟨w.heap.size, 0, none⟩), .bool true]) ∧
      w' = (w.alloc (.cells #[.int .i64 0, .int .i64 0, .int .i64 0, .slice none 0 0, .int .i64 0, .int .i64 0, .int .i64 0] 39)).drew := by
  have t0 := as56_29
  have t1 := as56_56
  go_enter Yba.func13, Yba.ntmps13
  go_wp2
  go_region
  all_goals
    go_wp2
    go_ret2
    exact ⟨rfl, rfl⟩

theorem scalar_ref (b : Nat) (s : ByteArray) (w : World) (h0 : w.cell? ⟨b, 0, none⟩ = some (.int .i64 4)) (h1 : w.cell? ⟨b, 1, none⟩ = some (.string s)) :
    Calls Yba.prog 16 #[.iface 30 (.pointer (some ⟨b, 0, none⟩))] w fun e w' => e = .returned (.tuple #[.string s, .bool true]) ∧ ∃ n, w' = w.drewN n := by
  have t0 := as30_30
  go_enter Yba.func16, Yba.ntmps16
  go_wp2
  go_ret2
  exact ⟨rfl, 0, rfl⟩

set_option maxHeartbeats 1000000 in
theorem scalar_string (b : Nat) (s : ByteArray) (w : World) (hs : 2 ≤ s.size) (hm : s.size ≤ 1000) (h0 : w.cell? ⟨b, 0, none⟩ = some (.int .i64 0)) (h1 : w.cell? ⟨b, 1, none⟩ = some (.string s)) :
    Calls Yba.prog 16 #[.iface 30 (.pointer (some ⟨b, 0, none⟩))] w fun e w' => e = .returned (.tuple #[.string (s.extract 1 (s.size - 1)), .bool true]) ∧ ∃ n, w' = w.drewN n := by
  have t0 := as30_30
  have hsl : ∀ W : World, (Instr.slice 9 (.string s) (some (.int .i64 1)) (some (.int .i64 ((s.size : Int) - 1))) none).run Yba.prog W = .ok (.string (s.extract 1 (s.size - 1))) W := fun W => by
    rw [run_slice_string_if W 9 s .i64 .i64 1 ((s.size : Int) - 1) Yba.underlying9, if_pos (by omega), if_pos (by omega)]
    rw [show ((s.size : Int) - 1).toNat = s.size - 1 by omega]
    rfl
  go_enter Yba.func16, Yba.ntmps16
  go_wp2
  go_quiet (fail)
  go_wp2
  go_ret2
  exact ⟨rfl, _, rfl⟩

theorem scalar_node (v : Value) (w : World) :
    Calls Yba.prog 16 #[.iface 29 v] w fun e w' => e = .returned (.tuple #[.string ⟨#[]⟩, .bool false]) ∧ ∃ n, w' = w.drewN n := by
  have t0 := as29_30
  go_enter Yba.func16, Yba.ntmps16
  go_wp2
  go_ret2
  exact ⟨rfl, 0, rfl⟩

theorem scalar_array (v : Value) (w : World) :
    Calls Yba.prog 16 #[.iface 56 v] w fun e w' => e = .returned (.tuple #[.string ⟨#[]⟩, .bool false]) ∧ ∃ n, w' = w.drewN n := by
  have t0 := as56_30
  go_enter Yba.func16, Yba.ntmps16
  go_wp2
  go_ret2
  exact ⟨rfl, 0, rfl⟩
end Go.Proofs.Ybulkbegy
