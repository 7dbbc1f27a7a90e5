/-
  Lookup (15) of "Alias".
-/
import Derived.Test.YbulkbegyTree
namespace Go.Proofs.Ybulkbegy
open Go.RowKit

theorem bare_alias (k : Nat) : ((bareOf k).toList == [65, 108, 105, 97, 115]) = isAlias k := by
  rw [ByteArray.toList_eq]
  match k with
  | 0 => decide
  | 1 => decide
  | 2 => decide
  | 3 => decide
  | 4 => decide
  | 5 => decide
  | n + 6 =>
    have e : isAlias (n + 6) = false := by simp [isAlias]
    rw [e]
    show ((bareOf 6).data.toList == [65, 108, 105, 97, 115]) = false
    decide

/-- The first alias among the names from 0 on, if any. -/
def firstAlias (K : Nat → Nat) : Nat → Option Nat
  | 0 => none
  | n + 1 => match firstAlias K n with
    | some j => some j
    | none => if isAlias (K n) then some n else none

theorem firstAlias_none {K : Nat → Nat} : ∀ {n : Nat}, firstAlias K n = none → ∀ i, i < n → isAlias (K i) = false
  | 0, _, i, hi => absurd hi (Nat.not_lt_zero _)
  | n + 1, h, i, hi => by
    simp only [firstAlias] at h
    cases hn : firstAlias K n with
    | some j => rw [hn] at h; cases h
    | none =>
      rw [hn] at h
      rcases Nat.lt_succ_iff_lt_or_eq.1 hi with c | rfl
      · exact firstAlias_none hn i c
      · cases ha : isAlias (K i) with
        | false => rfl
        | true => rw [ha] at h; cases h
theorem firstAlias_some {K : Nat → Nat} {n j : Nat} (hj : j < n) (ha : isAlias (K j) = true) (hno : firstAlias K j = none) : firstAlias K n = some j := by
  induction n with
  | zero => exact absurd hj (Nat.not_lt_zero _)
  | succ n ih =>
    simp only [firstAlias]
    rcases Nat.lt_succ_iff_lt_or_eq.1 hj with c | rfl
    · rw [ih c]
    · rw [hno, ha]; rfl

/-- What Lookup answers. -/
def aliasPtr (K D : Nat → Nat) (n : Nat) : Value := match firstAlias K n with
  | some j => .pointer (some ⟨D j, 0, none⟩)
  | none => .pointer none

theorem aliasPtr_some {K D : Nat → Nat} {n j : Nat} (h : firstAlias K n = some j) : aliasPtr K D n = .pointer (some ⟨D j, 0, none⟩) := by unfold aliasPtr; rw [h]
theorem aliasPtr_none {K D : Nat → Nat} {n : Nat} (h : firstAlias K n = none) : aliasPtr K D n = .pointer none := by unfold aliasPtr; rw [h]

theorem ret_of {v v' : Value} (h : v' = v) : Ending.returned v = .returned v' := by rw [h]

set_option maxHeartbeats 1000000 in
theorem lookup_some (nb g n cap : Nat) (K D : Nat → Nat) (w : World) (hpos : 0 < n) (hn : n ≤ 1000000) (h3 : w.cell? ⟨nb, 3, none⟩ = some (.slice (some ⟨g, 0, none⟩) n cap))
    (hg : ∀ i, i < n → w.cell? ⟨g, i, none⟩ = some (.pointer (some ⟨D i, 0, none⟩))) (hK : ∀ i, i < n → K i < 7) (hD : ∀ i, i < n → w.cell? ⟨D i, 0, none⟩ = some (.string (nameOf (K i)))) :
    Calls Yba.prog 15 #[.pointer (some ⟨nb, 0, none⟩), .string ⟨#[65, 108, 105, 97, 115]⟩] w fun e w' => e = .returned (aliasPtr K D n) ∧ w' = w := by
  go_enter Yba.func15, Yba.ntmps15
  go_wp2_with fail
  go_loop [12] (fun v => ∃ k : Nat, k ≤ n ∧ v = .int .i64 k ∧ Hid (firstAlias K k = none)) (fun v => n - (intOf v).toNat)
  case atStart => exact ⟨0, Nat.zero_le _, rfl, rfl⟩
  case round =>
    obtain ⟨k, hk, rfl, hno⟩ := hrel
    by_cases hlt : k < n
    · have hlt' : (k : Int) < (n : Int) := by omega
      have q0 := hg k hlt
      have q1 := hD k hlt
      have q2 := hK k hlt
      have ba := bare_alias (K k)
      clear hg hD hK
      cases ha : isAlias (K k) with
      | true =>
        rw [ha] at ba
        have HA : Hid (isAlias (K k) = true) := ha
        clear ha
        go_wp2_with fail
        refine (bare_any (K k) (D k) _ q2 q1).mono ?_
        rintro e w' ⟨rfl, rfl⟩
        go_wp2_with fail
        go_ret
        exact ⟨ret_of (aliasPtr_some (firstAlias_some hlt HA.out hno.out)), rfl⟩
      | false =>
        rw [ha] at ba
        have HA : Hid (isAlias (K k) = false) := ha
        clear ha
        go_wp2_with fail
        refine (bare_any (K k) (D k) _ q2 q1).mono ?_
        rintro e w' ⟨rfl, rfl⟩
        go_wp2_with fail
        go_round
        case rel => exact ⟨k + 1, by omega, by go_num, by unfold Hid; simp only [firstAlias]; rw [hno.out, HA.out]; rfl⟩
        case measure => simp [intOf]; omega
    · obtain rfl : k = n := by omega
      have hlt' : ¬ (k : Int) < (k : Int) := by omega
      go_wp2_with fail
      go_ret
      exact ⟨ret_of (aliasPtr_none hno.out), rfl⟩

theorem lookup_zero (nb : Nat) (x : Option Addr) (cap : Nat) (K D : Nat → Nat) (w : World) (h3 : w.cell? ⟨nb, 3, none⟩ = some (.slice x 0 cap)) :
    Calls Yba.prog 15 #[.pointer (some ⟨nb, 0, none⟩), .string ⟨#[65, 108, 105, 97, 115]⟩] w fun e w' => e = .returned (aliasPtr K D 0) ∧ w' = w := by
  go_enter Yba.func15, Yba.ntmps15
  go_wp2_with fail
  go_loop [12] (fun v => v = .int .i64 0) (fun _ => 0)
  case atStart => rfl
  case round =>
    subst hrel
    go_wp2_with fail
    go_ret
    exact ⟨rfl, rfl⟩
end Go.Proofs.Ybulkbegy
