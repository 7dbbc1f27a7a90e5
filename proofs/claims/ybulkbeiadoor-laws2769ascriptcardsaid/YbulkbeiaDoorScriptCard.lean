/-
  'Rows.LawS2769AScriptCardSaid': the row proved, and its tied card.
-/
import Derived.Test.YbulkbeiaDoorRows
import Derived.Test.YbulkbeiaDoorLaw
import Derived.Test.YbulkbeiaDoorTie
import Derived.Test.YbulkbeiaDoorCards
import Derived.ProofKit
import Derived.LaidMore
import Derived.OpenShut
import Derived.OpenVars
import Derived.ShutString
import Derived.Stop.Joined
import Derived.SevenTiedAt
import Derived.Deep.SlicePairs
namespace Go.Proofs.YbulkbeiaDoor
open Go.ChangeShapes Go.WideShapes Go.ChangeAt Go.RowKit
open Go.ChangeMaps (open_string shut_string)
set_option linter.unusedVariables false

/-- The script, opened whole. -/
theorem open_in {H : Type} {enc : TypeId × Value → H} {w : World} {base : Nat} {held : Bool} {fuel len cap : Nat} {ea : Option Addr} {x : DataW H × List MemPlace}
    (h : DataW.trod enc Ybad.prog w base (fun _ => true) held fuel 22 [.slice ea len cap] = some x) :
    ∃ (nm : Nat → ByteArray) (hd : Nat → Bool), 0 < len → ∃ b0 o0, ea = some ⟨b0, o0, none⟩ ∧ In w b0 o0 len nm hd := by
  by_cases hl : 0 < len
  · rcases Deep.open_slice_pairs Ybad.underlying22 Ybad.underlying44 (by kernel_rfl) rfl rfl (by kernel_rfl) (by kernel_rfl) h with ⟨hcs, _⟩ | ⟨a, len', cap', m, n, V0, V1, D0, D1, P0, P1, hcs, _, hlc, _, hmm, _, hx⟩
    · simp at hcs
      omega
    simp only [List.cons.injEq, Value.slice.injEq, and_true] at hcs
    obtain ⟨rfl, rfl, rfl⟩ := hcs
    simp only [if_true] at hmm
    subst hmm
    have each : ∀ i, i < len → ∃ q : ByteArray × Bool, w.cell? (a.add (i * 2)) = some (.string q.1) ∧ w.cell? (a.add (i * 2 + 1)) = some (.bool q.2) ∧ q.1.size ≤ maxLen := by
      intro i hi
      obtain ⟨c0, c1, t0, t1⟩ := hx i (by omega)
      obtain ⟨s, hs, _, hsz⟩ := DataW.trod_string Ybad.underlying9 t0
      obtain ⟨b, hb, _⟩ := DataW.trod_bool Ybad.underlying4 t1
      simp only [List.cons.injEq, and_true] at hs hb
      exact ⟨(s, b), by rw [c0, hs], by rw [c1, hb], hsz⟩
    obtain ⟨q, hq⟩ := Deep.choose_lt (α := ByteArray × Bool) (h := each)
    obtain ⟨b, o, spot⟩ := a
    have e0 := (hq 0 hl).1
    have hspot : spot = none := by simpa [Addr.add] using World.cell?_spot e0
    subst hspot
    rw [add_plain] at e0
    refine ⟨fun i => (q i).1, fun i => (q i).2, fun _ => ⟨b, o, rfl, World.block_lt_of_cell? w _ e0, fun i hi => ?_, fun i hi => ?_, fun i hi => (hq i hi).2.2⟩⟩
    · have := (hq i hi).1
      rwa [add_plain] at this
    · have := (hq i hi).2.1
      rwa [add_plain] at this
  · exact ⟨fun _ => ⟨#[]⟩, fun _ => false, fun h => absurd h hl⟩

namespace lawS2769AScript

theorem own : ownKnob Ybad.prog.godebug = none := by kernel_rfl
def laid1 : List (String × DataW Unit) := Rows.lawS2769AScriptRow.laid

/-- The door's own heap meets the condition. -/
theorem door_met (os : Os) (args : Array Value) : laidMetH Ybad.prog laid1 ((World.doorLaid Ybad.prog 400 os).forCall (fun _ _ => 0) ⟨#[], args, []⟩).memory :=
  laidMetH_of_parts3 (fuel := 8) (laidMet_of_run' 8 (by kernel_rfl) (by kernel_rfl)) (by kernel_rfl) (by kernel_rfl)

set_option maxRecDepth 100000 in
theorem law_big (w : World) (c : ByteArray) (ea : Option Addr) (n cap0 : Nat) (hn : 256 < n) :
    Calls Ybad.prog 3 #[.string c, .slice ea n cap0] w fun e w' => e = .returned (.bool true) ∧ Below w.heap.size w w' := by
  have hle : (256 : Int) < (n : Int) := by omega
  go_enter Ybad.func3, Ybad.ntmps3
  go_wp2_with fail
  go_ret
  exact ⟨rfl, Below.refl _ _⟩

theorem walk (c : ByteArray) (a1 : Option Addr) (len1 cap1 : Nat) (nm : Nat → ByteArray) (hd : Nat → Bool) (w : World) (w0 : c.size ≤ maxLen) (w1 : 0 < len1 → ∃ b0 o0, a1 = some ⟨b0, o0, none⟩ ∧ In w b0 o0 len1 nm hd) :
    Calls Ybad.prog 3 #[.string c, .slice a1 len1 cap1] w fun e w' => e = .returned (.bool true) ∧ Below w.heap.size w w' := by
  by_cases hbig : 256 < len1
  · exact law_big w c a1 len1 cap1 hbig
  · exact law3 w c a1 len1 cap1 nm hd w1 (by omega) w0

set_option maxRecDepth 100000 in
theorem lifted (os : Os) (started : os.Started) (H : Type) (enc : TypeId × Value → H) :
    ReturnsInHanded {} Ybad.checked os 3 .any (fun w args => (Rows.lawS2769AScriptSpec.pre enc Ybad.prog Ybad.f3 [] false w args ∧ laidMetH Ybad.prog laid1 w) ∧ sizedMet enc Ybad.prog Ybad.f3 (OpenSpec.ofChange Rows.lawS2769AScriptSpec) false w args)
      (Rows.lawS2769AScriptSpec.post enc Ybad.prog Ybad.f3 false true false false) := by
  refine returnsInHanded_of_change_and (C := Ybad.checked) (X := fun w _ => laidMetH Ybad.prog laid1 w) (fun _ _ _ hh h => h.of_heap hh) own started (by kernel_rfl) Ybad.func3
    (ChangeSpec.witness_shaped (enc := enc) (C := Ybad.checked) (os := os) (X := fun w _ => laidMetH Ybad.prog laid1 w) false (World.doorLaid Ybad.prog 400 os) #[.string ⟨#[]⟩, .slice none 0 0] 8 rfl (World.shaped_of_RefB (by kernel_rfl) (by kernel_rfl)) (by kernel_rfl) (by kernel_rfl) (by kernel_rfl) (door_met os _)) ?_
  intro W base args ds gs before hval0 hW _ _ hL _
  have hval : ∀ (j : Nat) t v, Ybad.f3.params[j]? = some t → args[j]? = some v → Value.okWide Ybad.prog W .any base t v := hval0
  have hW' := hW
  obtain ⟨p, q, hA0, hV, rfl, hfz, hnd⟩ := hW
  have hA : DataW.TrodAll enc Ybad.prog W 0 (fun _ => true) true Ybad.f3.params.toList args.toList ds p := hA0
  rw [Ybad.params3] at hA hval
  obtain ⟨v0, vs0, d0, ds0, p0, q0, hargs, rfl, rfl, h0, r0⟩ := trodAll_cons hA
  obtain ⟨v1, vs1, d1, ds1, p1, q1, rfl, rfl, rfl, h1, r1⟩ := trodAll_cons r0
  obtain ⟨rfl, rfl, rfl⟩ := trodAll_nil r1
  obtain rfl : args = #[v0, v1] := by cases args; simp_all
  obtain ⟨c, rfl, rfl, rfl, w0⟩ := open_string Ybad.underlying9 (hval 0 9 v0 rfl rfl) h0
  obtain ⟨a1, len1, cap1, rfl⟩ := okWide_slice Ybad.underlying22 (hval 1 22 v1 rfl rfl)
  have k1 := h1
  have lt1 : ∀ x ∈ p1, x.block < W.heap.size := by obtain ⟨m, hm⟩ := k1; exact DataW.trod_lt m _ _ _ hm
  obtain ⟨nm, hd, w1⟩ : ∃ (nm : Nat → ByteArray) (hd : Nat → Bool), 0 < len1 → ∃ b0 o0, a1 = some ⟨b0, o0, none⟩ ∧ In W b0 o0 len1 nm hd := by
    obtain ⟨fuel, hf⟩ := h1
    exact open_in hf
  clear hA0 hval0
  obtain ⟨g1, rfl⟩ : ∃ g1, gs = [g1] := by
    obtain ⟨_, _, _, _, d, _, rfl, _⟩ := trodVars_one hV
    exact ⟨d, rfl⟩
  refine (walk c a1 len1 cap1 nm hd W w0 w1).mono fun e W' ⟨he, bel⟩ => ?_
  subst he
  exact ⟨_, rfl, _, _, _, [], _, _, hW', trodAll_mk1 (shut_bool Ybad.underlying4 _), (trodAll_cons_mk (shut_string Ybad.underlying9 w0) (trodAll_cons_mk (Below.trod laidOut (by kernel_rfl) (of_decide_eq_true (by kernel_rfl)) k1 bel lt1) trodAll_mk0)), Below.trodVars laidOut bel (by kernel_rfl) hV, bel.frame _, fun h => by cases h⟩

theorem over : Rows.LawS2769AScriptSaid :=
  OpenClaim.holds_of_wide 3 Ybad.f3 rfl rfl rfl rfl rfl rfl rfl ⟨rfl, rfl, rfl, rfl, rfl⟩ rfl rfl rfl rfl rfl (by kernel_rfl) Ybad.func3 (by kernel_rfl)
    (of_decide_eq_true (by kernel_rfl)) (by unfold Func.isWrapper; first | (rw [if_pos (by decide +kernel)]; kernel_rfl) | (rw [if_neg (by decide +kernel)]; exact ⟨rfl, rfl⟩))
    (fun os started H enc _ => lifted os started H enc)

theorem card : Rows.LawS2769AScriptCardSaid :=
  Claim7.holds_tied_plain_at .later [] [.data] true (true, "9bd468ec8e55187cc58924423b02279247220bcb3d40e09e09e403a1b25ad723") false
    over (fun _ h => by cases h) (by kernel_rfl) (fun _ h => by cases h) lawS2769AScript_row_tie rfl ⟨rfl, rfl⟩ (by kernel_rfl) rfl
    (fun f fn hf hfn => by
      obtain rfl : f = 3 := Option.some.inj ((show Ybad.prog.funcNamed Rows.lawS2769AScriptRow.func = some 3 by kernel_rfl).symm.trans hf) |>.symm
      obtain rfl : fn = Ybad.f3 := (Option.some.inj (Ybad.func3.symm.trans hfn)).symm
      exact ⟨by kernel_rfl, fun j t ht => by
        rw [Ybad.params3] at ht
        have hm : t ∈ [9, 22] := by simpa using Array.mem_of_getElem? ht
        have hall : ([9, 22].all fun u => !Ybad.prog.wantsStandIn u) = true := by kernel_rfl
        exact (show Ybad.prog.wantsStandIn t = false by simpa using List.all_eq_true.1 hall t hm)⟩)
    (by kernel_rfl)
end lawS2769AScript
end Go.Proofs.YbulkbeiaDoor
