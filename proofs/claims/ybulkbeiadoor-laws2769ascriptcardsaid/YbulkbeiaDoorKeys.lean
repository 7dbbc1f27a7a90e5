/-
  The two maps' keys: Reason (a struct of two strings; type 50), string (type 9).
-/
import Derived.Test.YbulkbeiaDoorProg
import Derived.Maps.OwnSet
import Derived.DeepKeys4
import Derived.MapViews
import Derived.StringKeys
import Derived.KernelRfl
namespace Go.Proofs.YbulkbeiaDoor
open Go.RowKit Go.Maps

theorem laidOut : laidOutB Ybad.prog = true := by kernel_rfl
theorem wide50 : (match Ybad.prog.underlying 50 with | some (.array _ _) | some (.struct _) => true | _ => false) = true := by rw [Ybad.underlying50]
theorem law50 : Keyed Ybad.prog 50 := Keyed.of_law (deep_law_laid laidOut (m := 2) (by omega) (of_decide_eq_true (by kernel_rfl)) (by kernel_rfl) wide50)
theorem law9 : Keyed Ybad.prog 9 := string_keyed Ybad.underlying9

theorem cells50 : Ybad.prog.cellsOf 50 = 2 := by kernel_rfl
theorem cells9 : Ybad.prog.cellsOf 9 = 1 := by kernel_rfl
theorem keyType50 : Ybad.prog.keyType 50 = true := by kernel_rfl
theorem types91 : Ybad.prog.types.size = 91 := by kernel_rfl

theorem lits9 (d : Nat) (s : ByteArray) (hs : s.size ≤ maxLen) : Ybad.prog.keyLits (d + 1) 9 [.string s] = some [.string s.data.toList] := by
  unfold Program.keyLits
  simp only [Ybad.underlying9]
  rw [if_pos hs]

theorem lits50 (d : Nat) (c s : ByteArray) (hc : c.size ≤ maxLen) (hs : s.size ≤ maxLen) : Ybad.prog.keyLits (d + 1 + 1) 50 [.string c, .string s] = some [.string c.data.toList, .string s.data.toList] := by
  unfold Program.keyLits
  simp only [Ybad.underlying50]
  rw [if_pos (by rw [cells50]; exact ⟨rfl, by simp⟩)]
  simp [cells9, lits9 d c hc, lits9 d s hs]

theorem key50 (c s : ByteArray) (hc : c.size ≤ maxLen) (hs : s.size ≤ maxLen) : ∃ l, keyOf Ybad.prog 50 (.agg #[.string c, .string s]) = some l := by
  unfold keyOf
  simp only [Ybad.underlying50]
  rw [if_pos (by simp [keyType50, Value.formed, Ybad.underlying50, cells50]), types91]
  exact ⟨_, by rw [show (91 + 1 : Nat) = 90 + 1 + 1 from rfl, show (Value.agg #[Value.string c, Value.string s]).cells.toList = [.string c, .string s] from rfl, lits50 90 c s hc hs]; rfl⟩

theorem zero24 (w : World) : (zeroValue 24).run Ybad.prog w = .ok (.agg #[]) w := by kernel_rfl
theorem zero3 (w : World) : (zeroValue 3).run Ybad.prog w = .ok (.int .i64 0) w := by kernel_rfl
end Go.Proofs.YbulkbeiaDoor
