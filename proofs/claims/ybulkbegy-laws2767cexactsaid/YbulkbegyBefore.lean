/-
  The contract of '(*printer).before' (function 12) at a cursor that has a file.
-/
import Derived.Test.YbulkbegyProg
import Derived.WalkKit
import Derived.WalkLawsBesides
import Derived.Outline
import Derived.Deep.LoopGhost
import Derived.Deep.QuietTactic
import Derived.BigQuiet
namespace Go.Proofs.Ybulkbegy
open Go.RowKit

/-- Where 'before' leaves the cursor: the first place from s on that is not marked, or n. -/
def Stops (m : Nat → Bool) (n s j : Nat) : Prop := s ≤ j ∧ j ≤ n ∧ (∀ i, s ≤ i → i < j → m i = true) ∧ (j < n → m j = false)

theorem Stops.one {m : Nat → Bool} {n s j k : Nat} (h : Stops m n s j) (g : Stops m n s k) : j = k := by
  obtain ⟨h1, h2, h3, h4⟩ := h
  obtain ⟨g1, g2, g3, g4⟩ := g
  rcases Nat.lt_trichotomy j k with hlt | rfl | hlt
  · have a := g3 j h1 hlt
    have b := h4 (by omega)
    rw [a] at b; cases b
  · rfl
  · have a := h3 k g1 hlt
    have b := g4 (by omega)
    rw [a] at b; cases b

/-- What it answers. -/
def answer (zs : Nat → Int) (n j : Nat) (off fin : Int) : Int := if j < n ∧ zs j < off ∧ zs j < fin then (j : Int) else -1

theorem ans_yes {zs : Nat → Int} {n j : Nat} {off fin : Int} (h : j < n) (h1 : zs j < if fin < off then fin else off) : answer zs n j off fin = (j : Int) := by
  unfold answer
  split at h1 <;> rw [if_pos (by omega)]
theorem ans_no {zs : Nat → Int} {n j : Nat} {off fin : Int} (h1 : (if fin < off then fin else off) ≤ zs j) : answer zs n j off fin = -1 := by
  unfold answer
  split at h1 <;> rw [if_neg (by omega)]
theorem ans_out {zs : Nat → Int} {n j : Nat} {off fin : Int} (h : ¬ j < n) : answer zs n j off fin = -1 := by
  unfold answer
  rw [if_neg (by omega)]
theorem ret_int {k : IntKind} {a b : Int} (h : a = b) : Ending.returned (.int k b) = .returned (.int k a) := by rw [h]

set_option maxHeartbeats 1000000 in
theorem before_any (w : World) (pb cb fb r gb wb n s cc : Nat) (K : Nat → Nat) (zs : Nat → Int) (m : Nat → Bool) (off fin : Int)
    (hn : n ≤ 1024) (hs : s ≤ n) (hpos : 0 < n)
    (hp : w.cell? ⟨pb, 4, none⟩ = some (.map (some r)))
    (hlk : ∀ k, (Instr.lookup 78 (.map (some r)) (.pointer (some ⟨fb, 0, none⟩)) false).run Yba.prog (w.drewN k) = .ok (.slice (some ⟨wb, 0, none⟩) n n) (w.drewN k))
    (hf : w.cell? ⟨fb, 2, none⟩ = some (.slice (some ⟨gb, 0, none⟩) n cc))
    (hg : ∀ i, i < n → w.cell? ⟨gb, i, none⟩ = some (.pointer (some ⟨K i, 0, none⟩)))
    (hK : ∀ i, i < n → w.cell? ⟨K i, 2, none⟩ = some (.int .i64 (zs i)))
    (hw : ∀ i, i < n → w.cell? ⟨wb, i, none⟩ = some (.bool (m i)))
    (hc0 : w.cell? ⟨cb, 0, none⟩ = some (.pointer (some ⟨fb, 0, none⟩)))
    (hc1 : w.cell? ⟨cb, 1, none⟩ = some (.int .i64 s))
    (hc2 : w.cell? ⟨cb, 2, none⟩ = some (.int .i64 fin))
    (hz1 : w.frozen? ⟨cb, 1, none⟩ = false)
    (lgb : gb < cb) (lwb : wb < cb) (lK : ∀ i, i < n → K i < cb) :
    Calls Yba.prog 12 #[.pointer (some ⟨pb, 0, none⟩), .pointer (some ⟨cb, 0, none⟩), .int .i64 off] w fun e w' =>
      ∃ j, Stops m n s j ∧ e = .returned (.int .i64 (answer zs n j off fin)) ∧ Below cb w w' ∧
        w'.cell? ⟨cb, 0, none⟩ = some (.pointer (some ⟨fb, 0, none⟩)) ∧ w'.cell? ⟨cb, 1, none⟩ = some (.int .i64 j) ∧ w'.cell? ⟨cb, 2, none⟩ = some (.int .i64 fin) := by
  go_enter Yba.func12, Yba.ntmps12
  go_wp2
  go_quiet (fail)
  go_wp2
  go_loopg [] (n - s) (fun k wr => ∃ j : Nat, s ≤ j ∧ j ≤ n ∧ k = n - j ∧ (∀ i, s ≤ i → i < j → m i = true) ∧ Below cb w wr ∧
    wr.cell? ⟨cb, 0, none⟩ = some (.pointer (some ⟨fb, 0, none⟩)) ∧ wr.cell? ⟨cb, 1, none⟩ = some (.int .i64 j) ∧ wr.cell? ⟨cb, 2, none⟩ = some (.int .i64 fin) ∧ wr.frozen? ⟨cb, 1, none⟩ = false)
  case atStart => exact ⟨s, Nat.le_refl _, hs, rfl, fun i h1 h2 => by omega, ⟨rfl, rfl, rfl, Nat.le_refl _, fun _ _ => rfl⟩, hc0, hc1, hc2, hz1⟩
  case round =>
    obtain ⟨j, h1, h2, hgk, h3, hb, r0, r1, r2, rz⟩ := hrel
    clear hc1
    by_cases hlt : j < n
    · have hlt' : (j : Int) < (n : Int) := by omega
      have q0 : wr.cell? ⟨wb, j, none⟩ = some (.bool (m j)) := (hb.cell (p := ⟨wb, j, none⟩) lwb).trans (hw j hlt)
      cases hmj : m j with
      | true =>
        rw [hmj] at q0
        have H : Hid (m j = true) := hmj
        clear hmj
        go_wp2
        go_roundg (n - (j + 1))
        case measure => omega
        case rel =>
          refine ⟨j + 1, by omega, by omega, rfl, fun i a b => ?_, hb.setCell (Nat.le_refl _) _, ?_, ?_, ?_, ?_⟩
          · rcases Nat.lt_succ_iff_lt_or_eq.1 b with c | rfl
            · exact h3 i a c
            · exact H.out
          · simp [go_sem, r0]
          · simp [go_sem, r1]
          · simp [go_sem, r2]
          · simp [go_sem, rz]
      | false =>
        rw [hmj] at q0
        have H : Hid (m j = false) := hmj
        clear hmj
        have q1 : wr.cell? ⟨gb, j, none⟩ = some (.pointer (some ⟨K j, 0, none⟩)) := (hb.cell (p := ⟨gb, j, none⟩) lgb).trans (hg j hlt)
        have q2 : wr.cell? ⟨K j, 2, none⟩ = some (.int .i64 (zs j)) := (hb.cell (p := ⟨K j, 2, none⟩) (lK j hlt)).trans (hK j hlt)
        go_wp2
        go_quiet (fail)
        go_wp2
        all_goals
          go_ret
          refine ⟨j, ⟨h1, h2, h3, fun _ => H.out⟩, ret_int ?_, hb.trans ⟨rfl, rfl, rfl, Nat.le_refl _, fun _ _ => rfl⟩, r0, r1, r2⟩
          first | exact ans_yes hlt (by assumption) | exact ans_no (by assumption)
    · have hlt' : ¬ (j : Int) < (n : Int) := by omega
      have hd : decide ((j : Int) < (n : Int)) = false := decide_eq_false hlt'
      go_wp2
      go_quiet (fail)
      go_wp2
      go_ret
      exact ⟨j, ⟨h1, h2, h3, fun c => absurd c hlt⟩, ret_int (ans_out hlt), hb.trans ⟨rfl, rfl, rfl, Nat.le_refl _, fun _ _ => rfl⟩, r0, r1, r2⟩

set_option maxHeartbeats 1000000 in
theorem before_zero (w : World) (pb cb fb r : Nat) (wv : Value) (off fin : Int)
    (hp : w.cell? ⟨pb, 4, none⟩ = some (.map (some r)))
    (hlk : ∀ k, (Instr.lookup 78 (.map (some r)) (.pointer (some ⟨fb, 0, none⟩)) false).run Yba.prog (w.drewN k) = .ok wv (w.drewN k))
    (hf : w.cell? ⟨fb, 2, none⟩ = some (.slice none 0 0))
    (hc0 : w.cell? ⟨cb, 0, none⟩ = some (.pointer (some ⟨fb, 0, none⟩)))
    (hc1 : w.cell? ⟨cb, 1, none⟩ = some (.int .i64 0))
    (hc2 : w.cell? ⟨cb, 2, none⟩ = some (.int .i64 fin)) :
    Calls Yba.prog 12 #[.pointer (some ⟨pb, 0, none⟩), .pointer (some ⟨cb, 0, none⟩), .int .i64 off] w fun e w' =>
      e = .returned (.int .i64 (-1)) ∧ Below cb w w' ∧
        w'.cell? ⟨cb, 0, none⟩ = some (.pointer (some ⟨fb, 0, none⟩)) ∧ w'.cell? ⟨cb, 1, none⟩ = some (.int .i64 0) ∧ w'.cell? ⟨cb, 2, none⟩ = some (.int .i64 fin) := by
  go_enter Yba.func12, Yba.ntmps12
  go_wp2
  go_quiet (fail)
  go_wp2
  go_loopg [] 0 (fun _ wr => Below cb w wr ∧
    wr.cell? ⟨cb, 0, none⟩ = some (.pointer (some ⟨fb, 0, none⟩)) ∧ wr.cell? ⟨cb, 1, none⟩ = some (.int .i64 0) ∧ wr.cell? ⟨cb, 2, none⟩ = some (.int .i64 fin))
  case atStart => exact ⟨⟨rfl, rfl, rfl, Nat.le_refl _, fun _ _ => rfl⟩, hc0, hc1, hc2⟩
  case round =>
    obtain ⟨hb, r0, r1, r2⟩ := hrel
    go_wp2
    go_quiet (fail)
    go_wp2
    go_ret
    exact ⟨rfl, hb.trans ⟨rfl, rfl, rfl, Nat.le_refl _, fun _ _ => rfl⟩, r0, r1, r2⟩
end Go.Proofs.Ybulkbegy
