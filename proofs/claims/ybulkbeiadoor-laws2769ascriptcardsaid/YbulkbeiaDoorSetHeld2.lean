/-
  (*Health).setHeld (function 16), walked, case by case.
-/
import Derived.Test.YbulkbeiaDoorSetHeld
import Derived.WalkSpells
import Derived.WalkArith
import Derived.BigRegion
import Derived.Deep.QuietTactic
import Derived.BigQuiet
namespace Go.Proofs.YbulkbeiaDoor
open Go.RowKit Go.Maps
set_option linter.unusedVariables false
set_option linter.unusedSimpArgs false

set_option maxHeartbeats 4000000 in
theorem setHeld_first (R : Nat → Nat) (hb k : Nat) (comp s : ByteArray) (ms : List ByteArray) (hms : ms = []) (X : World) (hi : Im R 1 X hb (hObj 1 (.map none) (.map none) 0)) (hc : comp.size ≤ maxLen) (hne : (comp.toList == []) = false) (hs : s.size ≤ maxLen) (hk : k ≤ 256) :
    Calls Ybad.prog 16 #[.pointer (some ⟨hb, 0, none⟩), .agg #[.string comp, .string s], .bool true] X fun e w' => e = .returned (.bool true) ∧ Held R hb comp (k + 1) (ms ++ [s]) X w' := by
  obtain ⟨l, hl⟩ := key50 comp s hc hs
  obtain ⟨l9, hk9⟩ : ∃ l9, keyOf Ybad.prog 9 (.string comp) = some l9 := ⟨_, Go.WideMaps.keyOf_string_mk Ybad.underlying9 hc⟩
  have hl1 : ∀ W : World, (Instr.lookup 31 (.map none) (.agg #[.string comp, .string s]) true).run Ybad.prog W = .ok (.tuple #[.agg #[], .bool false]) W := fun W => look_nil true law50 Ybad.underlying31 (zero24 W) hl
  have c2 : X.cell? ⟨hb, 2, none⟩ = some (.map none) := hi.cell 2
  have lt := hi.lt
  have q31 : ∀ (w : World) (r : Option Nat), (binOp .eql 31 (.map r) (.map none)).run Ybad.prog w = .ok (.bool r.isNone) w := fun w r => run_eql_map_nil w _ _ _ r Ybad.underlying31
  have hmm := @run_makeMap Ybad.prog
  obtain ⟨Ra, sa, hxa⟩ : ∃ R8, Step R R8 [] X ((X.alloc (.cells #[.string comp, .string s] 50)).alloc (.cells #[] 24)).drew ∧ Im R8 0 ((X.alloc (.cells #[.string comp, .string s] 50)).alloc (.cells #[] 24)).drew X.heap.size (.cells #[.string comp, .string s] 50) :=
    ⟨_, (((Step.refl R [] X).alloc (.cells #[.string comp, .string s] 50) 0).alloc (.cells #[] 24) 0).drew, (Im.alloc_new X R 0 (.cells #[.string comp, .string s] 50)).step (((Step.refl _ [] _).alloc (.cells #[] 24) 0).drew) (by simp)⟩
  go_enter Ybad.func16, Ybad.ntmps16
  go_wp2
  go_region
  generalize hWa : ((X.alloc (.cells #[.string comp, .string s] 50)).alloc (.cells #[] 24)).drew = Wa at sa hxa ⊢
  clear hWa
  have hia := hi.step sa (by simp)
  have ca2 : Wa.cell? ⟨hb, 2, none⟩ = some (.map none) := hia.cell 2
  have ca4 : Wa.cell? ⟨hb, 4, none⟩ = some (.map none) := hia.cell 4
  have fa2 := hia.frozen 2
  have fa4 := hia.frozen 4
  have lta := hia.lt
  go_wp2
  have sb : Step Ra Ra [1] Wa ((Wa.setCell ⟨hb, 2, none⟩ (.map (some Wa.heap.size))).setCell ⟨hb, 4, none⟩ (.map (some (Wa.heap.size + 1)))) :=
    ((Step.refl Ra [1] Wa).setCell (p := ⟨hb, 2, none⟩) (by simp [hia.1]) _).setCell (p := ⟨hb, 4, none⟩) (by simp [hia.1]) _
  have hib := (hia.setCell (i := 2) (.map (some Wa.heap.size))).setCell (i := 4) (.map (some (Wa.heap.size + 1)))
  have hxb' := hxa.step sb (by simp)
  have hsz : ((Wa.setCell ⟨hb, 2, none⟩ (.map (some Wa.heap.size))).setCell ⟨hb, 4, none⟩ (.map (some (Wa.heap.size + 1)))).heap.size = Wa.heap.size := by simp [World.setCell]
  generalize hWb : (Wa.setCell ⟨hb, 2, none⟩ (.map (some Wa.heap.size))).setCell ⟨hb, 4, none⟩ (.map (some (Wa.heap.size + 1))) = Wb at sb hib hxb' hsz ⊢
  rw [← hsz] at hib ⊢
  clear hWb hsz
  have sc := (Step.refl Ra [] Wb).alloc (.map #[] 0) 3
  have sd := (Step.refl (upd Ra Wb.heap.size 3) [] (Wb.alloc (.map #[] 0))).alloc (.map #[] 0) 4
  have hD8 : OwnM (upd (upd Ra Wb.heap.size 3) (Wb.alloc (.map #[] 0)).heap.size 4) 3 ((Wb.alloc (.map #[] 0)).alloc (.map #[] 0)) 50 unitElem Wb.heap.size k (.map []) :=
    ((show OwnM (upd Ra Wb.heap.size 3) 3 (Wb.alloc (.map #[] 0)) 50 unitElem Wb.heap.size 0 (.map []) from ⟨upd_same _ _ _, World.ownsMap_made _ _ _ _⟩).step sd (by simp)).mono (Nat.zero_le _)
  have hE8 : OwnM (upd (upd Ra Wb.heap.size 3) (Wb.alloc (.map #[] 0)).heap.size 4) 4 ((Wb.alloc (.map #[] 0)).alloc (.map #[] 0)) 9 (plainElem Ybad.prog 3) (Wb.alloc (.map #[] 0)).heap.size k (.map []) :=
    (show OwnM _ 4 ((Wb.alloc (.map #[] 0)).alloc (.map #[] 0)) 9 (plainElem Ybad.prog 3) (Wb.alloc (.map #[] 0)).heap.size 0 (.map []) from ⟨upd_same _ _ _, World.ownsMap_made _ _ _ _⟩).mono (Nat.zero_le _)
  have hi8 := hib.step (sc.trans sd) (by simp)
  have hx8 := hxb'.step (sc.trans sd) (by simp)
  have s8 : Step R _ [1] X ((Wb.alloc (.map #[] 0)).alloc (.map #[] 0)) := ((sa.mono (by simp)).trans sb).trans ((sc.trans sd).mono (by simp))
  simp only [World.size_alloc] at hD8 hE8 hi8 hx8 s8
  generalize hR8 : upd (upd Ra Wb.heap.size 3) (Wb.heap.size + 1) 4 = R8 at hD8 hE8 hi8 hx8 s8
  clear hR8 sc sd
  generalize hW8 : (Wb.alloc (.map #[] 0)).alloc (.map #[] 0) = W8 at hD8 hE8 hi8 hx8 s8 ⊢
  clear hW8
  generalize hnb : Wb.heap.size + 1 = nb at hD8 hE8 hi8 hx8 s8 ⊢
  generalize hrb : Wb.heap.size = rb at hD8 hE8 hi8 hx8 s8 ⊢
  generalize hxb : X.heap.size = xb at hx8 ⊢
  clear hnb hrb hxb sa sb hib hxb' hia hxa
  have d : DRel comp ms (.map []) := by rw [hms]; exact DRel.empty comp
  have e : ERel comp ms (.map []) := by rw [hms]; exact ERel.empty comp
  have hm : s ∉ ms := by rw [hms]; simp
  have hlen : ms.length ≤ 256 := by rw [hms]; simp
  have hn0 : (0 : Int) = (ms.length : Int) := by rw [hms]; rfl
  have hi8 : Im R8 1 W8 hb (hObj 1 (.map (some rb)) (.map (some nb)) (ms.length : Int)) := by rw [← hn0]; exact hi8
  clear hn0 hms
  obtain ⟨W9, hst, hown9, ht9⟩ := (owns_at (W := W8.drew) hD8.2 rfl).store law50 Ybad.underlying31 (by unfold maxLen; omega) hl unitElem_mk
  have s9 : Step R8 R8 [3] W8 W9 := (Step.refl R8 [3] W8).drew.trans (Step.turned ht9 (by simp [hD8.1]))
  have hi9 := hi8.step s9 (by simp)
  have hx9 := hx8.step s9 (by simp)
  have hE9 := hE8.step s9 (by simp)
  have hD9 : OwnM R8 3 W9 50 unitElem rb (k + 1) ((DataW.map []).put l (.agg [])) := ⟨hD8.1, hown9⟩
  have hlk := count_at (W := W9.drew) hE9.2 e rfl hk9
  obtain ⟨W10, hst2, hown10, ht10⟩ := (owns_at (W := W9.drew) hE9.2 rfl).store law9 Ybad.underlying32 (by unfold maxLen; omega) hk9 (plainElem_int Ybad.underlying3 (a := (ms.length : Int) + 1) (WalkArith.wf_i64 (by omega)))
  have s10 : Step R8 R8 [4] W9 W10 := (Step.refl R8 [4] W9).drew.trans (Step.turned ht10 (by simp [hE9.1]))
  have hi10 := hi9.step s10 (by simp)
  have hx10 := hx9.step s10 (by simp)
  have hD10 := hD9.step s10 (by simp)
  have hE10 : OwnM R8 4 W10 9 (plainElem Ybad.prog 3) nb (k + 1) ((DataW.map []).put l9 (.lit (.int .i64 ((ms.length : Int) + 1)))) := ⟨hE8.1, hown10⟩
  have r2 : W8.cell? ⟨hb, 2, none⟩ = some (.map (some rb)) := hi8.cell 2
  have x0 : W8.cell? ⟨xb, 0, none⟩ = some (.string comp) := hx8.cell 0
  have x1 : W8.cell? ⟨xb, 1, none⟩ = some (.string s) := hx8.cell 1
  have r4 : W9.cell? ⟨hb, 4, none⟩ = some (.map (some nb)) := hi9.cell 4
  have y0 : W9.cell? ⟨xb, 0, none⟩ = some (.string comp) := hx9.cell 0
  have z0 : W10.cell? ⟨xb, 0, none⟩ = some (.string comp) := hx10.cell 0
  have r5 : W10.cell? ⟨hb, 5, none⟩ = some (.int .i32 (ms.length : Int)) := hi10.cell 5
  have f5 := hi10.frozen 5
  go_region
  go_wp2
  go_region
  go_wp2_with (go_at_call 25; refine (add32 hb 5 _ 1 _ r5 f5).mono ?_; rintro e w' ⟨rfl, rfl⟩)
  go_ret
  have hw : wrap32 ((ms.length : Int) + 1) = ((ms ++ [s]).length : Int) := by rw [List.length_append]; simp only [List.length_singleton]; rw [show (((ms.length + 1 : Nat) : Int)) = (ms.length : Int) + 1 by omega]; simp [wrap32]; omega
  have s11 : Step R8 R8 [1] W10 (W10.setCell ⟨hb, 5, none⟩ (.int .i32 (wrap32 ((ms.length : Int) + 1)))) := (Step.refl R8 [1] W10).setCell (p := ⟨hb, 5, none⟩) (by simp [hi10.1]) _
  have hi11 := hi10.setCell (i := 5) (.int .i32 (wrap32 ((ms.length : Int) + 1)))
  refine ⟨rfl, R8, ((s8.mono (by simp)).trans ((s9.mono (by simp)).trans (s10.mono (by simp)))).trans (s11.mono (by simp)), .inr ⟨rb, nb, _, _, ?_, hD10.step s11 (by simp), hE10.step s11 (by simp), d.put (hD8.2.tidy law50) hl hm, ERel.put (hE8.2.isMap) hk9 (by simp) (by simp)⟩⟩
  rw [← hw]
  exact hi11

set_option maxHeartbeats 4000000 in
theorem setHeld_del (R : Nat → Nat) (hb k rb nb : Nat) (comp s : ByteArray) (ms : List ByteArray) (D E : DataW Unit) (X : World) (hi : Im R 1 X hb (hObj 1 (.map (some rb)) (.map (some nb)) (ms.length : Int))) (hD : OwnM R 3 X 50 unitElem rb k D) (hE : OwnM R 4 X 9 (plainElem Ybad.prog 3) nb k E)
    (d : DRel comp ms D) (e : ERel comp ms E) (hc : comp.size ≤ maxLen) (hne : (comp.toList == []) = false) (hs : s.size ≤ maxLen) (hm : s ∈ ms) (hlen : ms.length ≤ 256) (hk : k ≤ 256) (ms' : List ByteArray) (hms : ∀ x, x ∈ ms' ↔ x ∈ ms ∧ x ≠ s) (hml : ms'.length + 1 = ms.length) :
    Calls Ybad.prog 16 #[.pointer (some ⟨hb, 0, none⟩), .agg #[.string comp, .string s], .bool false] X fun e w' => e = .returned (.bool true) ∧ Held R hb comp (k + 1) ms' X w' := by
  obtain ⟨l, hl⟩ := key50 comp s hc hs
  obtain ⟨l9, hk9⟩ : ∃ l9, keyOf Ybad.prog 9 (.string comp) = some l9 := ⟨_, Go.WideMaps.keyOf_string_mk Ybad.underlying9 hc⟩
  have hh : Maps.has D l = true := (d.1 s l hl).2 hm
  have ltr := hD.2.lt
  have la := look31 (W := (X.alloc (.cells #[.string comp, .string s] 50)).drew) hD.2 (Below.heap_alloc _ _ _ ltr) hl
  have lb := look31 (W := ((X.alloc (.cells #[.string comp, .string s] 50)).alloc (.cells #[] 24)).drew) hD.2 ((Below.heap_alloc _ _ _ (by simp; omega)).trans (Below.heap_alloc _ _ _ ltr)) hl
  rw [hh] at la lb
  have c2 : X.cell? ⟨hb, 2, none⟩ = some (.map (some rb)) := hi.cell 2
  have lt := hi.lt
  obtain ⟨R8, s8, hx8⟩ : ∃ R8, Step R R8 [] X ((X.alloc (.cells #[.string comp, .string s] 50)).alloc (.cells #[] 24)).drew ∧ Im R8 0 ((X.alloc (.cells #[.string comp, .string s] 50)).alloc (.cells #[] 24)).drew X.heap.size (.cells #[.string comp, .string s] 50) :=
    ⟨_, (((Step.refl R [] X).alloc (.cells #[.string comp, .string s] 50) 0).alloc (.cells #[] 24) 0).drew, (Im.alloc_new X R 0 (.cells #[.string comp, .string s] 50)).step (((Step.refl _ [] _).alloc (.cells #[] 24) 0).drew) (by simp)⟩
  go_enter Ybad.func16, Ybad.ntmps16
  go_wp2
  go_region
  all_goals
    go_wp2
    clear la lb
    generalize hW8 : ((X.alloc (.cells #[.string comp, .string s] 50)).alloc (.cells #[] 24)).drew = W8 at s8 hx8 ⊢
    clear hW8
    have hi8 := hi.step s8 (by simp)
    have hD8 := hD.step s8 (by simp)
    have hE8 := hE.step s8 (by simp)
    generalize hxb : X.heap.size = xb at hx8 ⊢
    clear hxb
    have hdr := fun ty => (owns_at (W := W8.drew) hD8.2 rfl).drop law50 Ybad.underlying31 hl ty
    obtain ⟨W9, hst, hown9, ht9⟩ := hdr 0
    have s9 : Step R8 R8 [3] W8 W9 := (Step.refl R8 [3] W8).drew.trans (Step.turned ht9 (by simp [hD8.1]))
    have hi9 := hi8.step s9 (by simp)
    have hx9 := hx8.step s9 (by simp)
    have hE9 := hE8.step s9 (by simp)
    have hD9 : OwnM R8 3 W9 50 unitElem rb k (D.del l) := ⟨hD8.1, hown9⟩
    have hlk := count_at (W := W9.drew) hE9.2 e rfl hk9
    have r2 : W8.cell? ⟨hb, 2, none⟩ = some (.map (some rb)) := hi8.cell 2
    have x0 : W8.cell? ⟨xb, 0, none⟩ = some (.string comp) := hx8.cell 0
    have x1 : W8.cell? ⟨xb, 1, none⟩ = some (.string s) := hx8.cell 1
    have r4 : W9.cell? ⟨hb, 4, none⟩ = some (.map (some nb)) := hi9.cell 4
    have y0 : W9.cell? ⟨xb, 0, none⟩ = some (.string comp) := hx9.cell 0
    go_region
    go_wp2
    by_cases h1 : 1 < ms.length
    · have h1' : (0 : Int) < (ms.length : Int) - 1 := by omega
      obtain ⟨W10, hst2, hown10, ht10⟩ := (owns_at (W := W9.drew.drew) hE9.2 rfl).store law9 Ybad.underlying32 (by unfold maxLen; omega) hk9 (plainElem_int Ybad.underlying3 (a := (ms.length : Int) - 1) (WalkArith.wf_i64 (by omega)))
      have s10 : Step R8 R8 [4] W9 W10 := (Step.refl R8 [4] W9).drew.drew.trans (Step.turned ht10 (by simp [hE9.1]))
      have hE10 : OwnM R8 4 W10 9 (plainElem Ybad.prog 3) nb (k + 1) (E.put l9 (.lit (.int .i64 ((ms.length : Int) - 1)))) := ⟨hE8.1, hown10⟩
      have eE : ERel comp ms' (E.put l9 (.lit (.int .i64 ((ms.length : Int) - 1)))) := ERel.put (hE8.2.isMap) hk9 (by omega) (by omega)
      have hi10 := hi9.step s10 (by simp)
      have hx10 := hx9.step s10 (by simp)
      have hD10 := (hD9.step s10 (by simp)).mono (Nat.le_succ k)
      have z0 : W10.cell? ⟨xb, 0, none⟩ = some (.string comp) := hx10.cell 0
      have r5 : W10.cell? ⟨hb, 5, none⟩ = some (.int .i32 (ms.length : Int)) := hi10.cell 5
      have f5 := hi10.frozen 5
      go_region
      go_wp2
      go_region
      go_wp2_with (go_at_call 25; refine (add32 hb 5 _ (-1) _ r5 f5).mono ?_; rintro e w' ⟨rfl, rfl⟩)
      go_ret
      have hw : wrap32 ((ms.length : Int) + -1) = (ms'.length : Int) := by simp [wrap32]; omega
      have s11 : Step R8 R8 [1] W10 (W10.setCell ⟨hb, 5, none⟩ (.int .i32 (wrap32 ((ms.length : Int) + -1)))) := (Step.refl R8 [1] W10).setCell (p := ⟨hb, 5, none⟩) (by simp [hi10.1]) _
      have hi11 := hi10.setCell (i := 5) (.int .i32 (wrap32 ((ms.length : Int) + -1)))
      refine ⟨rfl, R8, ((s8.mono (by simp)).trans ((s9.mono (by simp)).trans (s10.mono (by simp)))).trans (s11.mono (by simp)), .inr ⟨rb, nb, _, _, ?_, hD10.step s11 (by simp), hE10.step s11 (by simp), d.del (hD8.2.tidy law50) hl hm hms hml, eE⟩⟩
      rw [← hw]
      exact hi11
    · have h1' : ¬ (0 : Int) < (ms.length : Int) - 1 := by omega
      obtain ⟨W10, hst2, hown10, ht10⟩ := (owns_at (W := W9.drew.drew) hE9.2 rfl).drop law9 Ybad.underlying32 hk9 0
      have s10 : Step R8 R8 [4] W9 W10 := (Step.refl R8 [4] W9).drew.drew.trans (Step.turned ht10 (by simp [hE9.1]))
      have hE10 : OwnM R8 4 W10 9 (plainElem Ybad.prog 3) nb (k + 1) (E.del l9) := (show OwnM R8 4 W10 9 (plainElem Ybad.prog 3) nb k (E.del l9) from ⟨hE8.1, hown10⟩).mono (Nat.le_succ _)
      have eE : ERel comp ms' (E.del l9) := ERel.del hk9 (by omega)
      have hi10 := hi9.step s10 (by simp)
      have hx10 := hx9.step s10 (by simp)
      have hD10 := (hD9.step s10 (by simp)).mono (Nat.le_succ k)
      have z0 : W10.cell? ⟨xb, 0, none⟩ = some (.string comp) := hx10.cell 0
      have r5 : W10.cell? ⟨hb, 5, none⟩ = some (.int .i32 (ms.length : Int)) := hi10.cell 5
      have f5 := hi10.frozen 5
      go_region
      go_wp2
      go_region
      go_wp2_with (go_at_call 25; refine (add32 hb 5 _ (-1) _ r5 f5).mono ?_; rintro e w' ⟨rfl, rfl⟩)
      go_ret
      have hw : wrap32 ((ms.length : Int) + -1) = (ms'.length : Int) := by simp [wrap32]; omega
      have s11 : Step R8 R8 [1] W10 (W10.setCell ⟨hb, 5, none⟩ (.int .i32 (wrap32 ((ms.length : Int) + -1)))) := (Step.refl R8 [1] W10).setCell (p := ⟨hb, 5, none⟩) (by simp [hi10.1]) _
      have hi11 := hi10.setCell (i := 5) (.int .i32 (wrap32 ((ms.length : Int) + -1)))
      refine ⟨rfl, R8, ((s8.mono (by simp)).trans ((s9.mono (by simp)).trans (s10.mono (by simp)))).trans (s11.mono (by simp)), .inr ⟨rb, nb, _, _, ?_, hD10.step s11 (by simp), hE10.step s11 (by simp), d.del (hD8.2.tidy law50) hl hm hms hml, eE⟩⟩
      rw [← hw]
      exact hi11

end Go.Proofs.YbulkbeiaDoor
