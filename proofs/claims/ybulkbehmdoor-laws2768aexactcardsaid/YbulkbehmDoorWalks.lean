/-
  The walks of seat b2768aD: contracts of the functions on the road of 'propagateFixedBuild'.
-/
import Derived.Test.YbulkbehmDoorProg
import Derived.WalkKit
import Derived.WalkLawsBesides
import Derived.Outline
import Derived.Deep.LoopGhost
import Derived.Deep.QuietTactic
import Derived.BigQuiet
import Derived.RegionTactic
import Derived.Deep.RegionWith
import Derived.Laws.StructEq
namespace Go.Proofs.YbulkbehmDoor
open Go.RowKit

/-! ### The plain functions -/
/-- Does the offset name one of the three platforms? -/
def onB (i : Int) : Bool := decide (-1 ≤ i ∧ i ≤ 1)
theorem onB_yes {i : Int} (h : onB i = true) : -1 ≤ i ∧ i ≤ 1 := of_decide_eq_true h
theorem onB_no {i : Int} (h : onB i = false) : ¬ (-1 ≤ i ∧ i ≤ 1) := of_decide_eq_false h

/-- The offsets of the six lists. -/
def hostOf : Nat → Int
  | 0 => -1 | 1 => -1 | 2 => -1 | 3 => 0 | 4 => 0 | _ => 1
def targetOf : Nat → Int
  | 0 => -1 | 1 => 0 | 2 => 1 | 3 => 0 | 4 => 1 | _ => 1

/-- The list of the offsets h, t; 0 where there is none. -/
def listAt (h t : Int) : Int :=
  if h = -1 ∧ t = -1 then 0 else if h = -1 ∧ t = 0 then 1 else if h = -1 ∧ t = 1 then 2 else if h = 0 ∧ t = 0 then 3 else if h = 0 ∧ t = 1 then 4 else if h = 1 ∧ t = 1 then 5 else 0

/-- What the table's cells are. -/
def TabIs (w : World) : Prop := ∀ i, i < 6 → w.cell? ⟨0, i * 3 + 1, none⟩ = some (.int .i64 (hostOf i)) ∧ w.cell? ⟨0, i * 3 + 1 + 1, none⟩ = some (.int .i64 (targetOf i))

theorem listAt_hit {k : Nat} {h t : Int} (hk : k < 6) (e : hostOf k = h ∧ targetOf k = t) : listAt h t = (k : Int) := by
  obtain ⟨rfl, rfl⟩ := e
  match k, hk with
  | 0, _ => rfl
  | 1, _ => rfl
  | 2, _ => rfl
  | 3, _ => rfl
  | 4, _ => rfl
  | 5, _ => rfl
theorem listAt_none {h t : Int} (hno : ∀ i, i < 6 → ¬ (hostOf i = h ∧ targetOf i = t)) : listAt h t = 0 := by
  have n0 := hno 0 (by omega)
  have n1 := hno 1 (by omega)
  have n2 := hno 2 (by omega)
  have n3 := hno 3 (by omega)
  have n4 := hno 4 (by omega)
  have n5 := hno 5 (by omega)
  simp only [hostOf, targetOf] at n0 n1 n2 n3 n4 n5
  unfold listAt
  rw [if_neg (by omega), if_neg (by omega), if_neg (by omega), if_neg (by omega), if_neg (by omega), if_neg (by omega)]

theorem ret2 {a b : Int} {ok : Bool} (h : a = b) : Ending.returned (.tuple #[.int .i64 b, .bool ok]) = .returned (.tuple #[.int .i64 a, .bool ok]) := by rw [h]

/-! ### The leaves -/
theorem on_yes (i : Int) (w : World) (h : onB i = true) : Calls Ybad.prog 13 #[.int .i64 i] w fun e w' => e = .returned (.bool true) ∧ w' = w := by
  have h' := onB_yes h
  have h1 : -1 ≤ i := h'.1
  have h2 : i ≤ 1 := h'.2
  clear h h'
  go_enter Ybad.func13, Ybad.ntmps13
  go_wp2
  go_ret
  exact ⟨rfl, rfl⟩
theorem on_no (i : Int) (w : World) (h : onB i = false) : Calls Ybad.prog 13 #[.int .i64 i] w fun e w' => e = .returned (.bool false) ∧ w' = w := by
  have h' := onB_no h
  clear h
  by_cases h1 : -1 ≤ i
  · have h2 : ¬ i ≤ 1 := by omega
    clear h'
    go_enter Ybad.func13, Ybad.ntmps13
    go_wp2
    go_ret
    exact ⟨rfl, rfl⟩
  · clear h'
    go_enter Ybad.func13, Ybad.ntmps13
    go_wp2
    go_ret
    exact ⟨rfl, rfl⟩

theorem not_yet {k : Nat} {h t : Int} (hno : Hid (∀ i, i < k → ¬ (hostOf i = h ∧ targetOf i = t))) (E : Hid (¬ (hostOf k = h ∧ targetOf k = t))) : Hid (∀ i, i < k + 1 → ¬ (hostOf i = h ∧ targetOf i = t)) := fun i hi => by
  rcases Nat.lt_succ_iff_lt_or_eq.1 hi with c | rfl
  · exact hno.out i c
  · exact E.out

set_option maxHeartbeats 1000000 in
theorem at_any (h t : Int) (w : World) (hT : TabIs w) (h0 : 0 < w.heap.size) :
    Calls Ybad.prog 12 #[.agg #[.int .i64 h, .int .i64 t]] w fun e w' => ∃ ok, e = .returned (.tuple #[.int .i64 (listAt h t), .bool ok]) ∧ Below w.heap.size w w' := by
  go_enter Ybad.func12, Ybad.ntmps12
  go_wp2
  go_loopw [5] (fun v wr => ∃ k : Nat, k ≤ 6 ∧ v = .int .i64 k ∧ Hid (∀ i, i < k → ¬ (hostOf i = h ∧ targetOf i = t)) ∧ Below w.heap.size w wr ∧
      wr.cell? ⟨w.heap.size, 0, none⟩ = some (.int .i64 h) ∧ wr.cell? ⟨w.heap.size, 1, none⟩ = some (.int .i64 t)) (fun v _ => 6 - (intOf v).toNat)
  case atStart => exact ⟨0, by omega, rfl, fun i hi => absurd hi (Nat.not_lt_zero _), (Below.refl _ _).alloc (Nat.le_refl _) _, by simp [go_sem], by simp [go_sem]⟩
  case round =>
    obtain ⟨k, hk, rfl, hno, hb, c0, c1⟩ := hrel
    by_cases hlt : k < 6
    · have hlt' : (k : Int) < 6 := by omega
      have q0 : wr.cell? ⟨0, k * 3 + 1, none⟩ = some (.int .i64 (hostOf k)) := (hb.cell (p := ⟨0, k * 3 + 1, none⟩) h0).trans (hT k hlt).1
      have q1 : wr.cell? ⟨0, k * 3 + 1 + 1, none⟩ = some (.int .i64 (targetOf k)) := (hb.cell (p := ⟨0, k * 3 + 1 + 1, none⟩) h0).trans (hT k hlt).2
      clear hT
      by_cases e0 : hostOf k = h
      · by_cases e1 : targetOf k = t
        · have b0 : (hostOf k == h) = true := by simp [e0]
          have b1 : (targetOf k == t) = true := by simp [e1]
          have E : Hid (hostOf k = h ∧ targetOf k = t) := ⟨e0, e1⟩
          clear e0 e1
          go_wp2
          go_region
          go_wp2
          go_ret2
          exact ⟨true, ret2 (listAt_hit hlt E.out), hb.drew⟩
        · have b0 : (hostOf k == h) = true := by simp [e0]
          have b1 : (targetOf k == t) = false := by simp [e1]
          have E : Hid (¬ (hostOf k = h ∧ targetOf k = t)) := fun x => e1 x.2
          clear e0 e1
          go_wp2
          go_region
          go_wp2
          go_roundw
          case rel => exact ⟨k + 1, by omega, by go_num, not_yet hno E, hb.drew, c0, c1⟩
          case measure => simp [intOf]; omega
      · have b0 : (hostOf k == h) = false := by simp [e0]
        have E : Hid (¬ (hostOf k = h ∧ targetOf k = t)) := fun x => e0 x.1
        clear e0
        go_wp2
        go_region
        go_wp2
        go_roundw
        case rel => exact ⟨k + 1, by omega, by go_num, not_yet hno E, hb.drew, c0, c1⟩
        case measure => simp [intOf]; omega
    · obtain rfl : k = 6 := by omega
      go_wp2
      go_ret2
      exact ⟨false, ret2 (listAt_none hno), hb⟩
end Go.Proofs.YbulkbehmDoor
