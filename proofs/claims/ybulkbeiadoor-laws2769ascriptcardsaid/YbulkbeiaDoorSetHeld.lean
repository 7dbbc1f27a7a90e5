/-
  (*Health).setHeld (function 16), walked, case by case.
-/
import Derived.Test.YbulkbeiaDoorState
import Derived.Test.YbulkbeiaDoorSmall
import Derived.WalkSpells
import Derived.WalkArith
import Derived.BigRegion
import Derived.Deep.QuietTactic
import Derived.BigQuiet
namespace Go.Proofs.YbulkbeiaDoor
open Go.RowKit Go.Maps
set_option linter.unusedVariables false
set_option linter.unusedSimpArgs false

def Held (R : Nat → Nat) (hb : Nat) (comp : ByteArray) (k : Nat) (ms : List ByteArray) (X w' : World) : Prop := ∃ R', Step R R' [1, 3, 4] X w' ∧ St R' hb comp 1 k ms w'

theorem owns_at {H : Type} {P : Program} {X W : World} {k : TypeId} {Rd : Value → Option (DataW H × List MemPlace)} {b n : Nat} {D : DataW H} (h : X.ownsMap P k Rd b n D) (e : W.heap[b]? = X.heap[b]?) : W.ownsMap P k Rd b n D := by
  obtain ⟨es, clock, hb, rest⟩ := h
  exact ⟨es, clock, e.trans hb, rest⟩

theorem look31 {X W : World} {rb n : Nat} {D : DataW Unit} {l : Lit} {key : Value} (h : X.ownsMap Ybad.prog 50 unitElem rb n D) (e : W.heap[rb]? = X.heap[rb]?) (hl : keyOf Ybad.prog 50 key = some l) :
    (Instr.lookup 31 (.map (some rb)) key true).run Ybad.prog W = .ok (.tuple #[.agg #[], .bool (Maps.has D l)]) W := by
  obtain ⟨v, ps, hrun, hv⟩ := (owns_at h e).look_ok law50 Ybad.underlying31 (zero24 W) unitElem_mk hl
  obtain ⟨rfl, _⟩ := unitElem_inv hv
  exact hrun

/-- The count of a component, read. -/
theorem count_at {X W : World} {nb n : Nat} {E : DataW Unit} {comp : ByteArray} {ms : List ByteArray} {l : Lit} (h : X.ownsMap Ybad.prog 9 (plainElem Ybad.prog 3) nb n E) (e : ERel comp ms E) (eW : W.heap[nb]? = X.heap[nb]?) (hl : keyOf Ybad.prog 9 (.string comp) = some l) :
    (Instr.lookup 32 (.map (some nb)) (.string comp) false).run Ybad.prog W = .ok (.int .i64 (ms.length : Int)) W := by
  obtain ⟨c, hrun, hat, _⟩ := (owns_at h eW).lookup_int law9 Ybad.underlying32 Ybad.underlying3 (zero3 _) hl
  rw [(e l hl).2] at hat
  simp at hat
  rw [← hat] at hrun
  exact hrun

set_option maxHeartbeats 1000000 in
theorem setHeld_nil_not (R : Nat → Nat) (hb k : Nat) (comp s : ByteArray) (X : World) (hi : Im R 1 X hb (hObj 1 (.map none) (.map none) 0)) (hc : comp.size ≤ maxLen) (hs : s.size ≤ maxLen) :
    Calls Ybad.prog 16 #[.pointer (some ⟨hb, 0, none⟩), .agg #[.string comp, .string s], .bool false] X fun e w' => e = .returned (.bool false) ∧ Held R hb comp k [] X w' := by
  obtain ⟨l, hl⟩ := key50 comp s hc hs
  have hl1 : ∀ W : World, (Instr.lookup 31 (.map none) (.agg #[.string comp, .string s]) true).run Ybad.prog W = .ok (.tuple #[.agg #[], .bool false]) W := fun W => look_nil true law50 Ybad.underlying31 (zero24 W) hl
  have c2 : X.cell? ⟨hb, 2, none⟩ = some (.map none) := hi.cell 2
  have lt := hi.lt
  go_enter Ybad.func16, Ybad.ntmps16
  go_wp2
  go_region
  go_wp2
  go_ret
  have s1 := (((Step.refl R [] X).alloc (.cells #[.string comp, .string s] 50) 0).alloc (.cells #[] 24) 0).drew
  exact ⟨rfl, _, s1.mono (by simp), .inl ⟨rfl, hi.step s1 (by simp)⟩⟩

set_option maxHeartbeats 1000000 in
theorem setHeld_same (R : Nat → Nat) (hb k rb : Nat) (comp s : ByteArray) (held : Bool) (nm : Int) (cm : Value) (D : DataW Unit) (X : World) (hi : Im R 1 X hb (hObj 1 (.map (some rb)) cm nm)) (hD : OwnM R 3 X 50 unitElem rb k D)
    (hc : comp.size ≤ maxLen) (hs : s.size ≤ maxLen) (hh : ∀ l, keyOf Ybad.prog 50 (.agg #[.string comp, .string s]) = some l → Maps.has D l = held) :
    Calls Ybad.prog 16 #[.pointer (some ⟨hb, 0, none⟩), .agg #[.string comp, .string s], .bool held] X fun e w' => e = .returned (.bool false) ∧ ∃ R', Step R R' [] X w' := by
  obtain ⟨l, hl⟩ := key50 comp s hc hs
  have hh' := hh l hl
  have ltr := hD.2.lt
  have la := look31 (W := (X.alloc (.cells #[.string comp, .string s] 50)).drew) hD.2 (Below.heap_alloc _ _ _ ltr) hl
  have lb := look31 (W := ((X.alloc (.cells #[.string comp, .string s] 50)).alloc (.cells #[] 24)).drew) hD.2 ((Below.heap_alloc _ _ _ (by simp; omega)).trans (Below.heap_alloc _ _ _ ltr)) hl
  rw [hh'] at la lb
  have c2 : X.cell? ⟨hb, 2, none⟩ = some (.map (some rb)) := hi.cell 2
  have lt := hi.lt
  clear hh hh'
  cases held
  all_goals
    go_enter Ybad.func16, Ybad.ntmps16
    go_wp2
    go_region
    all_goals
      go_wp2
      go_ret
      exact ⟨rfl, _, (((Step.refl R [] X).alloc (.cells #[.string comp, .string s] 50) 0).alloc (.cells #[] 24) 0).drew⟩

set_option maxHeartbeats 4000000 in
theorem setHeld_add (R : Nat → Nat) (hb k rb nb : Nat) (comp s : ByteArray) (ms : List ByteArray) (D E : DataW Unit) (X : World) (hi : Im R 1 X hb (hObj 1 (.map (some rb)) (.map (some nb)) (ms.length : Int))) (hD : OwnM R 3 X 50 unitElem rb k D) (hE : OwnM R 4 X 9 (plainElem Ybad.prog 3) nb k E)
    (d : DRel comp ms D) (e : ERel comp ms E) (hc : comp.size ≤ maxLen) (hne : (comp.toList == []) = false) (hs : s.size ≤ maxLen) (hm : s ∉ ms) (hk : k ≤ 256) (hlen : ms.length ≤ 256) :
    Calls Ybad.prog 16 #[.pointer (some ⟨hb, 0, none⟩), .agg #[.string comp, .string s], .bool true] X fun e w' => e = .returned (.bool true) ∧ Held R hb comp (k + 1) (ms ++ [s]) X w' := by
  obtain ⟨l, hl⟩ := key50 comp s hc hs
  obtain ⟨l9, hk9⟩ : ∃ l9, keyOf Ybad.prog 9 (.string comp) = some l9 := ⟨_, Go.WideMaps.keyOf_string_mk Ybad.underlying9 hc⟩
  have hh : Maps.has D l = false := by
    cases h : Maps.has D l with
    | false => rfl
    | true => exact absurd ((d.1 s l hl).1 h) hm
  have ltr := hD.2.lt
  have la := look31 (W := (X.alloc (.cells #[.string comp, .string s] 50)).drew) hD.2 (Below.heap_alloc _ _ _ ltr) hl
  have lb := look31 (W := ((X.alloc (.cells #[.string comp, .string s] 50)).alloc (.cells #[] 24)).drew) hD.2 ((Below.heap_alloc _ _ _ (by simp; omega)).trans (Below.heap_alloc _ _ _ ltr)) hl
  rw [hh] at la lb
  have c2 : X.cell? ⟨hb, 2, none⟩ = some (.map (some rb)) := hi.cell 2
  have lt := hi.lt
  have q31 : ∀ (w : World) (r : Option Nat), (binOp .eql 31 (.map r) (.map none)).run Ybad.prog w = .ok (.bool r.isNone) w := fun w r => run_eql_map_nil w _ _ _ r Ybad.underlying31
  obtain ⟨R8, s8, hx8⟩ : ∃ R8, Step R R8 [] X ((X.alloc (.cells #[.string comp, .string s] 50)).alloc (.cells #[] 24)).drew ∧ Im R8 0 ((X.alloc (.cells #[.string comp, .string s] 50)).alloc (.cells #[] 24)).drew X.heap.size (.cells #[.string comp, .string s] 50) :=
    ⟨_, (((Step.refl R [] X).alloc (.cells #[.string comp, .string s] 50) 0).alloc (.cells #[] 24) 0).drew, (Im.alloc_new X R 0 (.cells #[.string comp, .string s] 50)).step (((Step.refl _ [] _).alloc (.cells #[] 24) 0).drew) (by simp)⟩
  go_enter Ybad.func16, Ybad.ntmps16
  go_wp2
  go_region
  all_goals
    go_wp2
    clear la lb
    generalize hW8 : ((X.alloc (.cells #[.string comp, .string s] 50)).alloc (.cells #[] 24)).drew = W8 at s8 hx8 ⊢
    clear hW8
    have hi8 := hi.step s8 (by simp)
    have hD8 := hD.step s8 (by simp)
    have hE8 := hE.step s8 (by simp)
    generalize hxb : X.heap.size = xb at hx8 ⊢
    clear hxb
    obtain ⟨W9, hst, hown9, ht9⟩ := (owns_at (W := W8.drew) hD8.2 rfl).store law50 Ybad.underlying31 (by unfold maxLen; omega) hl unitElem_mk
    have s9 : Step R8 R8 [3] W8 W9 := (Step.refl R8 [3] W8).drew.trans (Step.turned ht9 (by simp [hD8.1]))
    have hi9 := hi8.step s9 (by simp)
    have hx9 := hx8.step s9 (by simp)
    have hE9 := hE8.step s9 (by simp)
    have hD9 : OwnM R8 3 W9 50 unitElem rb (k + 1) (D.put l (.agg [])) := ⟨hD8.1, hown9⟩
    have hlk := count_at (W := W9.drew) hE9.2 e rfl hk9
    obtain ⟨W10, hst2, hown10, ht10⟩ := (owns_at (W := W9.drew) hE9.2 rfl).store law9 Ybad.underlying32 (by unfold maxLen; omega) hk9 (plainElem_int Ybad.underlying3 (a := (ms.length : Int) + 1) (WalkArith.wf_i64 (by omega)))
    have s10 : Step R8 R8 [4] W9 W10 := (Step.refl R8 [4] W9).drew.trans (Step.turned ht10 (by simp [hE9.1]))
    have hi10 := hi9.step s10 (by simp)
    have hx10 := hx9.step s10 (by simp)
    have hD10 := hD9.step s10 (by simp)
    have hE10 : OwnM R8 4 W10 9 (plainElem Ybad.prog 3) nb (k + 1) (E.put l9 (.lit (.int .i64 ((ms.length : Int) + 1)))) := ⟨hE8.1, hown10⟩
    have r2 : W8.cell? ⟨hb, 2, none⟩ = some (.map (some rb)) := hi8.cell 2
    have x0 : W8.cell? ⟨xb, 0, none⟩ = some (.string comp) := hx8.cell 0
    have x1 : W8.cell? ⟨xb, 1, none⟩ = some (.string s) := hx8.cell 1
    have r4 : W9.cell? ⟨hb, 4, none⟩ = some (.map (some nb)) := hi9.cell 4
    have y0 : W9.cell? ⟨xb, 0, none⟩ = some (.string comp) := hx9.cell 0
    have z0 : W10.cell? ⟨xb, 0, none⟩ = some (.string comp) := hx10.cell 0
    have r5 : W10.cell? ⟨hb, 5, none⟩ = some (.int .i32 (ms.length : Int)) := hi10.cell 5
    have f5 := hi10.frozen 5
    go_region
    go_wp2
    go_region
    go_wp2_with (go_at_call 25; refine (add32 hb 5 _ 1 _ r5 f5).mono ?_; rintro e w' ⟨rfl, rfl⟩)
    go_ret
    have hw : wrap32 ((ms.length : Int) + 1) = ((ms ++ [s]).length : Int) := by rw [List.length_append]; simp only [List.length_singleton]; rw [show (((ms.length + 1 : Nat) : Int)) = (ms.length : Int) + 1 by omega]; simp [wrap32]; omega
    have s11 : Step R8 R8 [1] W10 (W10.setCell ⟨hb, 5, none⟩ (.int .i32 (wrap32 ((ms.length : Int) + 1)))) := (Step.refl R8 [1] W10).setCell (p := ⟨hb, 5, none⟩) (by simp [hi10.1]) _
    have hi11 := hi10.setCell (i := 5) (.int .i32 (wrap32 ((ms.length : Int) + 1)))
    refine ⟨rfl, R8, ((s8.mono (by simp)).trans ((s9.mono (by simp)).trans (s10.mono (by simp)))).trans (s11.mono (by simp)), .inr ⟨rb, nb, _, _, ?_, hD10.step s11 (by simp), hE10.step s11 (by simp), d.put (hD8.2.tidy law50) hl hm, ERel.put (hE8.2.isMap) hk9 (by simp) (by simp)⟩⟩
    rw [← hw]
    exact hi11

end Go.Proofs.YbulkbeiaDoor
