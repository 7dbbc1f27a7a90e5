/-
  What the row's condition 'laid' gives the walks: the table's cells.
-/
import Derived.Test.YbulkbehmDoorRows
import Derived.Test.YbulkbehmDoorWalks
import Derived.ProofKit
import Derived.LaidMore
import Derived.OpenShut
import Derived.OpenVars
import Derived.Stop.Joined
namespace Go.Proofs.YbulkbehmDoor
open Go.ChangeShapes Go.WideShapes Go.ChangeAt Go.RowKit

theorem own : ownKnob Ybad.prog.godebug = none := by kernel_rfl
theorem laidOut : laidOutB Ybad.prog = true := by kernel_rfl
theorem gTab : Ybad.prog.globalNamed (Rows.lawS2768AExactSpec.vars.headD "") = some 0 := by kernel_rfl
theorem tTab : (Ybad.prog.globals[0]?).map (·.type) = some 41 := by kernel_rfl
theorem c41 : Ybad.prog.cellsOf 41 = 18 := by kernel_rfl
theorem c40 : Ybad.prog.cellsOf 40 = 3 := by kernel_rfl

def laid1 : List (String × DataW Unit) := Rows.lawS2768AExactRow.laid

/-- The door's own heap meets the condition. -/
theorem door_met (os : Os) (args : Array Value) : laidMetH Ybad.prog laid1 ((World.doorLaid Ybad.prog 400 os).forCall (fun _ _ => 0) ⟨#[], args, []⟩).memory :=
  laidMetH_of_parts3 (fuel := 8) (laidMet_of_run' 8 (by kernel_rfl) (by kernel_rfl)) (by kernel_rfl) (by kernel_rfl)

theorem c23 : Ybad.prog.cellsOf 23 = 2 := by kernel_rfl
theorem c3 : Ybad.prog.cellsOf 3 = 1 := by kernel_rfl

/-- One entry of the table: its second and third cell. -/
theorem entry {H : Type} {enc : TypeId × Value → H} {W : World} {sp : Nat → Bool} {held : Bool} {m : Nat} {cs : List Value} {x : DataW H × List MemPlace} {s : DataW H} {a b : Int}
    (h : DataW.trod enc Ybad.prog W 0 sp held m 40 cs = some x) (hx : x.1 = .agg [s, .agg [.lit (.int .i64 a), .lit (.int .i64 b)]]) : cs[1]? = some (.int .i64 a) ∧ cs[2]? = some (.int .i64 b) := by
  obtain ⟨y0, y1, n, rfl, hl, h0, h1⟩ := trod_struct2 Ybad.underlying40 h
  simp only [DataW.agg.injEq, List.cons.injEq, and_true] at hx
  rw [c40] at hl
  obtain ⟨z0, z1, n', rfl, hl', g0, g1⟩ := trod_struct2 Ybad.underlying23 h1
  have hx2 := hx.2
  simp only [DataW.agg.injEq, List.cons.injEq, and_true] at hx2
  obtain ⟨k0, e0, f0, _⟩ := DataW.trod_int Ybad.underlying3 g0
  obtain ⟨k1, e1, f1, _⟩ := DataW.trod_int Ybad.underlying3 g1
  rw [f0, f1] at hx2
  simp only [DataW.lit.injEq, Lit.int.injEq, true_and] at hx2
  obtain ⟨rfl, rfl⟩ := hx2
  match cs, hl with
  | [x0, x1, x2], _ =>
    simp [c23, c3] at e0 e1
    simp [e0, e1]

theorem of_laid {W : World} (h : laidMetH Ybad.prog laid1 W) : TabIs W := by
  rw [MakeChecks.laidMetH_plain _ _ _ (by kernel_rfl)] at h
  obtain ⟨ps, ⟨g0, t0, cs0, f0, p0, q0, hg0, ht0, hv0, hd0, _, _⟩, _⟩ := h
  obtain rfl := Option.some.inj (gTab.symm.trans hg0)
  obtain rfl := Option.some.inj (tTab.symm.trans ht0)
  obtain ⟨xs, m1, rfl, hx1, hlen, hn3, hel⟩ := DataW.trod_array Ybad.underlying41 hd0
  have cell : ∀ j, W.cell? ⟨0, j, none⟩ = cs0[j]? := fun j => by simpa using World.var?_cell hg0 hv0 j
  simp only [Prod.mk.injEq, Rows.laid_example_com_offsetwise_offsetwise_pkg_resolve_platformLists, DataW.agg.injEq] at hx1
  have one : ∀ i, i < 6 → ∀ {s : DataW Unit} {a b : Int}, (xs.map (·.1))[i]? = some (.agg [s, .agg [.lit (.int .i64 a), .lit (.int .i64 b)]]) →
      W.cell? ⟨0, i * 3 + 1, none⟩ = some (.int .i64 a) ∧ W.cell? ⟨0, i * 3 + 1 + 1, none⟩ = some (.int .i64 b) := fun i hi {s a b} e => by
    have hi' := hel i hi
    cases hxi : xs[i]? with
    | none => rw [List.getElem?_map, hxi] at e; cases e
    | some x =>
      rw [hxi] at hi'
      rw [List.getElem?_map, hxi] at e
      have := entry hi' (Option.some.inj e)
      rw [c40] at this
      simp only [List.getElem?_take, List.getElem?_drop] at this
      rw [cell, cell]
      simpa [Nat.add_assoc] using this
  intro i hi
  have hm := hx1.1
  match i, hi with
  | 0, _ => exact one 0 (by omega) (by rw [← hm]; rfl)
  | 1, _ => exact one 1 (by omega) (by rw [← hm]; rfl)
  | 2, _ => exact one 2 (by omega) (by rw [← hm]; rfl)
  | 3, _ => exact one 3 (by omega) (by rw [← hm]; rfl)
  | 4, _ => exact one 4 (by omega) (by rw [← hm]; rfl)
  | 5, _ => exact one 5 (by omega) (by rw [← hm]; rfl)
end Go.Proofs.YbulkbehmDoor
