/-
  (*Health).set (function 11) and (*ComponentHealth).update (function 5), walked.
-/
import Derived.Test.YbulkbeiaDoorSetHeld2
import Derived.Test.YbulkbeiaDoorLocks
import Derived.Conc.MuLone
namespace Go.Proofs.YbulkbeiaDoor
open Go.RowKit Go.Maps
open Go.MuLone
set_option linter.unusedVariables false
set_option linter.unusedSimpArgs false

/-- The model's step. -/
def After (held : Bool) (s : ByteArray) (ms ms' : List ByteArray) : Prop :=
  (held = true ∧ s ∈ ms ∧ ms' = ms) ∨ (held = true ∧ s ∉ ms ∧ ms' = ms ++ [s]) ∨ (held = false ∧ s ∉ ms ∧ ms' = ms) ∨
  (held = false ∧ s ∈ ms ∧ (∀ x, x ∈ ms' ↔ x ∈ ms ∧ x ≠ s) ∧ ms'.length + 1 = ms.length)

theorem setHeld_any (R : Nat → Nat) (hb k : Nat) (comp s : ByteArray) (ms ms' : List ByteArray) (held : Bool) (X : World) (h : St R hb comp 1 k ms X) (hc : comp.size ≤ maxLen) (hne : (comp.toList == []) = false) (hs : s.size ≤ maxLen)
    (hk : k ≤ 256) (hlen : ms.length ≤ 256) (ha : After held s ms ms') :
    Calls Ybad.prog 16 #[.pointer (some ⟨hb, 0, none⟩), .agg #[.string comp, .string s], .bool held] X fun e w' => ∃ b, e = .returned (.bool b) ∧ Held R hb comp (k + 1) ms' X w' := by
  rcases h with ⟨hm0, hi⟩ | ⟨rb, nb, D, E, hi, hD, hE, d, e⟩
  · rcases ha with ⟨_, h1, _⟩ | ⟨rfl, _, rfl⟩ | ⟨rfl, _, rfl⟩ | ⟨_, h1, _⟩
    · rw [hm0] at h1; simp at h1
    · refine (setHeld_first R hb k comp s ms hm0 X hi hc hne hs hk).mono ?_
      rintro e w' ⟨rfl, h⟩
      exact ⟨_, rfl, h⟩
    · subst hm0
      refine (setHeld_nil_not R hb (k + 1) comp s X hi hc hs).mono ?_
      rintro e w' ⟨rfl, h⟩
      exact ⟨_, rfl, h⟩
    · rw [hm0] at h1; simp at h1
  · have same : ∀ hd : Bool, (hd = true ↔ s ∈ ms) → Calls Ybad.prog 16 #[.pointer (some ⟨hb, 0, none⟩), .agg #[.string comp, .string s], .bool hd] X fun e w' => ∃ b, e = .returned (.bool b) ∧ Held R hb comp (k + 1) ms X w' := by
      intro hd hx
      refine (setHeld_same R hb k rb comp s hd _ _ D X hi hD hc hs (fun l hl => ?_)).mono ?_
      · have := (d.1 s l hl).trans hx.symm
        cases hd <;> cases h : Maps.has D l <;> simp_all
      · rintro e' w' ⟨rfl, R', st⟩
        exact ⟨_, rfl, R', st.mono (by simp), (show St R hb comp 1 (k + 1) ms X from .inr ⟨rb, nb, D, E, hi, hD.mono (Nat.le_succ _), hE.mono (Nat.le_succ _), d, e⟩).step st (by simp) (by simp) (by simp)⟩
    rcases ha with ⟨rfl, h1, rfl⟩ | ⟨rfl, h1, rfl⟩ | ⟨rfl, h1, rfl⟩ | ⟨rfl, h1, h2, h3⟩
    · exact same true (by simp [h1])
    · refine (setHeld_add R hb k rb nb comp s ms D E X hi hD hE d e hc hne hs h1 hk hlen).mono ?_
      rintro e w' ⟨rfl, h⟩
      exact ⟨_, rfl, h⟩
    · exact same false (by simp [h1])
    · refine (setHeld_del R hb k rb nb comp s ms D E X hi hD hE d e hc hne hs h1 hlen hk ms' h2 h3).mono ?_
      rintro e w' ⟨rfl, h⟩
      exact ⟨_, rfl, h⟩

theorem St.chan {R : Nat → Nat} {hb k : Nat} {comp : ByteArray} {lk : Int} {ms : List ByteArray} {X : World} (h : St R hb comp lk k ms X) : X.cell? ⟨hb, 6, none⟩ = some (.chan none) := by
  rcases h with ⟨_, hi⟩ | ⟨rb, nb, D, E, hi, _⟩
  · exact hi.cell 6
  · exact hi.cell 6
theorem St.lk {R : Nat → Nat} {hb k : Nat} {comp : ByteArray} {lk : Int} {ms : List ByteArray} {X : World} (h : St R hb comp lk k ms X) : X.cell? ⟨hb, 0, none⟩ = some (.int .i32 lk) ∧ X.frozen? ⟨hb, 0, none⟩ = false := by
  rcases h with ⟨_, hi⟩ | ⟨rb, nb, D, E, hi, _⟩
  · exact ⟨hi.cell 0, hi.frozen 0⟩
  · exact ⟨hi.cell 0, hi.frozen 0⟩
theorem St.role {R : Nat → Nat} {hb k : Nat} {comp : ByteArray} {lk : Int} {ms : List ByteArray} {X : World} (h : St R hb comp lk k ms X) : R hb = 1 := by
  rcases h with ⟨_, hi⟩ | ⟨rb, nb, D, E, hi, _⟩
  · exact hi.1
  · exact hi.1
theorem St.setLk {R : Nat → Nat} {hb k : Nat} {comp : ByteArray} {lk : Int} {ms : List ByteArray} {X : World} (h : St R hb comp lk k ms X) (lk' : Int) : St R hb comp lk' k ms (X.setCell ⟨hb, 0, none⟩ (.int .i32 lk')) := by
  have s : Step R R [1] X (X.setCell ⟨hb, 0, none⟩ (.int .i32 lk')) := (Step.refl R [1] X).setCell (p := ⟨hb, 0, none⟩) (by simp [h.role]) _
  rcases h with ⟨h0, hi⟩ | ⟨rb, nb, D, E, hi, hD, hE, d, e⟩
  · exact .inl ⟨h0, hi.setCell (i := 0) _⟩
  · exact .inr ⟨rb, nb, D, E, hi.setCell (i := 0) _, hD.step s (by simp), hE.step s (by simp), d, e⟩

theorem neq36 (w : World) : (binOp .neq 36 (.chan none) (.chan none)).run Ybad.prog w = .ok (.bool false) w := by
  have h : ∀ d : Nat, (Op.equalIn (d + 1) 36 (.chan none) (.chan none)).run Ybad.prog w = .ok true w := fun d => by
    simp [Op.equalIn, run_underlying Ybad.underlying36]
  simp only [binOp]
  simp [Op.equal, Op.maxDepth, h 9999]

set_option maxHeartbeats 1000000 in
theorem set_any (R : Nat → Nat) (hb k : Nat) (comp s : ByteArray) (ms ms' : List ByteArray) (held : Bool) (X : World) (h : St R hb comp 1 k ms X) (hc : comp.size ≤ maxLen) (hne : (comp.toList == []) = false) (hs : s.size ≤ maxLen)
    (hk : k ≤ 256) (hlen : ms.length ≤ 256) (ha : After held s ms ms') :
    Calls Ybad.prog 11 #[.pointer (some ⟨hb, 0, none⟩), .agg #[.string comp, .string s], .bool held] X fun e w' => e = .returned (.tuple #[]) ∧ Held R hb comp (k + 1) ms' X w' := by
  have n36 := neq36
  obtain ⟨R1, s1⟩ : ∃ R1, Step R R1 [] X ((X.alloc (.cells #[.string comp, .string s] 50)).alloc (.cells #[.string comp, .string s] 50)) := ⟨_, ((Step.refl R [] X).alloc _ 0).alloc _ 0⟩
  have h1 := h.step s1 (by simp) (by simp) (by simp)
  go_enter Ybad.func11, Ybad.ntmps11
  go_wp2_with (go_at_call 15; refine (ownBit_any comp s _ hne).mono ?_; rintro e w' ⟨rfl, rfl⟩)
  refine (setHeld_any R1 hb k comp s ms ms' held _ h1 hc hne hs hk hlen ha).mono ?_
  rintro e w' ⟨b, rfl, R2, s2, h2⟩
  have c6 := h2.chan
  cases b
  all_goals
    go_wp2
    go_end0
    exact ⟨rfl, R2, (s1.mono (by simp)).trans s2, h2⟩

/-- A piece that goes on to its end alone. -/
theorem wp_only {P : Program} {c : Code} {Q : Exit → Act → World → Prop} {a : Act} {w : World} (h : c.wp P (Exit.then (fun a' w' => Q .normal a' w') (fun _ _ _ => False)) a w) : c.wp P Q a w :=
  wp_mono h (by intro e a' w' h'; cases e <;> first | exact h' | exact h'.elim)

set_option maxHeartbeats 1000000 in
theorem update_any (R : Nat → Nat) (hb cb k : Nat) (comp s : ByteArray) (ms ms' : List ByteArray) (held : Bool) (X : World) (h : St R hb comp 0 k ms X) (hcb : Im R 2 X cb (cObj hb comp)) (hc : comp.size ≤ maxLen) (hne : (comp.toList == []) = false) (hs : s.size ≤ maxLen)
    (hk : k ≤ 256) (hlen : ms.length ≤ 256) (ha : After held s ms ms') :
    Calls Ybad.prog 5 #[.pointer (some ⟨cb, 0, none⟩), .string s, .bool held] X fun e w' => e = .returned (.tuple #[]) ∧ ∃ R', Step R R' [1, 3, 4] X w' ∧ St R' hb comp 0 (k + 1) ms' w' := by
  have h1 := h.setLk 1
  have s1 : Step R R [1] X (X.setCell ⟨hb, 0, none⟩ (.int .i32 1)) := (Step.refl R [1] X).setCell (p := ⟨hb, 0, none⟩) (by simp [h.role]) _
  have hcb1 := hcb.step s1 (by simp)
  have d0 : X.cell? ⟨cb, 0, none⟩ = some (.pointer (some ⟨hb, 0, none⟩)) := hcb.cell 0
  have e0 : (X.setCell ⟨hb, 0, none⟩ (.int .i32 1)).cell? ⟨cb, 0, none⟩ = some (.pointer (some ⟨hb, 0, none⟩)) := hcb1.cell 0
  have e1 : (X.setCell ⟨hb, 0, none⟩ (.int .i32 1)).cell? ⟨cb, 1, none⟩ = some (.string comp) := hcb1.cell 1
  have e2 : (X.setCell ⟨hb, 0, none⟩ (.int .i32 1)).cell? ⟨cb, 2, none⟩ = some (.bool false) := hcb1.cell 2
  go_enter_defers Ybad.func5, Ybad.ntmps5
  go_wp2_with (go_at_call 9; refine (lock_free Ybad.muLib ⟨hb, 0, none⟩ _ h.lk.1 h.lk.2).mono ?_; rintro e w' ⟨rfl, rfl⟩)
  generalize hX1 : X.setCell ⟨hb, 0, none⟩ (.int .i32 1) = X1 at s1 h1 hcb1 e0 e1 e2 ⊢
  have h2 : St R hb comp 1 k ms X1.drew := h1.step (Step.refl R [] X1).drew (by simp) (by simp) (by simp)
  refine wp_only ?_
  go_region_with (go_at_call 11; refine (set_any R hb k comp s ms ms' held _ h2 hc hne hs hk hlen ha).mono ?_; rintro e w' ⟨rfl, R2, s2, h3⟩)
  all_goals
    go_wp2
    refine leaves_cons (f := 10) (args := #[.pointer (some ⟨hb, 0, none⟩)]) (by simp) (by simp [go_sem]) ?_
    refine (unlock_deferred Ybad.muLib ⟨hb, 0, none⟩ .returning _ h3.lk.1 h3.lk.2).mono ?_
    rintro e u' w'' ⟨rfl, rfl, rfl⟩
    exact ⟨_, results_none rfl _ _ _, rfl, R2, ((s1.mono (by simp)).drew.trans s2).setCell (p := ⟨hb, 0, none⟩) (by simp [h3.role]) _, h3.setLk 0⟩
end Go.Proofs.YbulkbeiaDoor
