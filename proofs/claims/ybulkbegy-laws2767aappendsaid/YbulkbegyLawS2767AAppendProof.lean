/-
  'Rows.LawS2767AAppendSaid': the frame (after proof-skeleton.mjs, the slice of structs added by hand) round the walk.
-/
import Derived.Test.YbulkbegyRows
import Derived.WalkKit
import Derived.ProofKit
import Derived.OpenShut
import Derived.ShutString
import Derived.ChangeOld
import Derived.Below
import Derived.Test.YbulkbegyAppendLaw
import Derived.Test.YbulkbegyAppendOpen
namespace Go.Proofs.Ybulkbegy.lawS2767AAppend
open Go.ChangeShapes Go.WideShapes Go.ChangeAt Go.RowKit
open Go.ChangeMaps (open_string shut_string)
set_option linter.unusedVariables false

theorem own : ownKnob Yba.prog.godebug = none := by kernel_rfl
theorem laidOut : laidOutB Yba.prog = true := by kernel_rfl

set_option maxRecDepth 100000 in
theorem law_big (w : World) (pr : Int) (ea : Option Addr) (n cap0 : Nat) (hn : 256 < n) :
    Calls Yba.prog 3 #[.int .u8 pr, .slice ea n cap0] w fun e w' => e = .returned (.bool true) ∧ Below w.heap.size w w' := by
  have hle : (256 : Int) < (n : Int) := by omega
  go_enter Yba.func3, Yba.ntmps3
  go_wp2_with fail
  go_ret
  exact ⟨rfl, Below.refl _ _⟩

theorem walk (a0 : Int) (a1 : Option Addr) (len1 cap1 : Nat) (nm kd : Nat → Int) (iv : Nat → Value) (il : Nat → Nat) (w : World) (w0 : (Lit.int .u8 a0).wf = true) (w1 : 0 < len1 → ∃ b0 o0, a1 = some ⟨b0, o0, none⟩ ∧ In w b0 o0 len1 nm kd iv il) :
    Calls Yba.prog 3 #[.int .u8 a0, .slice a1 len1 cap1] w fun e w' => e = .returned (.bool true) ∧ Below w.heap.size w w' := by
  have hx := bounds_u8 w0
  by_cases hbig : 256 < len1
  · exact law_big w a0 a1 len1 cap1 hbig
  · exact law3 w a0 a1 len1 cap1 nm kd iv il w1 (by omega) hx.1 hx.2

/-! ### THE ROW's STEP: WRITTEN OUT: LEAVE IT -/
set_option maxRecDepth 100000 in
theorem lifted (os : Os) (started : os.Started) (H : Type) (enc : TypeId × Value → H) :
    ReturnsInHanded {} Yba.checked os 3 .any (Rows.lawS2767AAppendSpec.pre6 enc Yba.prog Yba.f3 Rows.lawS2767AAppendRow.domain false) (Rows.lawS2767AAppendSpec.post enc Yba.prog Yba.f3 false true false false) := by
  refine returnsInHanded_of_change (C := Yba.checked) own started (by kernel_rfl) Yba.func3
    (ChangeSpec.witness6 (enc := enc) (C := Yba.checked) false ⟨#[], #[.int .u8 0, .slice none 0 0], []⟩ 8 (by kernel_rfl) (by kernel_rfl) (by kernel_rfl) (by kernel_rfl)) ?_
  intro W base args ds gs before hval0 hW hcnd _
  have hval : ∀ (j : Nat) t v, Yba.f3.params[j]? = some t → args[j]? = some v → Value.okWide Yba.prog W .any base t v := hval0
  have hW' := hW
  obtain ⟨p, q, hA0, hV, rfl, hfz, hnd⟩ := hW
  have hA : DataW.TrodAll enc Yba.prog W 0 (fun _ => true) true Yba.f3.params.toList args.toList ds p := hA0
  rw [Yba.params3] at hA hval
  obtain ⟨v0, vs0, d0, ds0, p0, q0, hargs, rfl, rfl, h0, r0⟩ := trodAll_cons hA
  obtain ⟨v1, vs1, d1, ds1, p1, q1, rfl, rfl, rfl, h1, r1⟩ := trodAll_cons r0
  obtain ⟨rfl, rfl, rfl⟩ := trodAll_nil r1
  obtain rfl : args = #[v0, v1] := by cases args; simp_all
  obtain ⟨rfl, rfl⟩ := trodVars_none hV
  obtain ⟨a0, rfl, rfl, rfl, w0⟩ := open_int Yba.underlying5 (hval 0 5 v0 rfl rfl) h0
  obtain ⟨a1, len1, cap1, rfl⟩ := okWide_slice Yba.underlying22 (hval 1 22 v1 rfl rfl)
  have k1 := h1
  have lt1 : ∀ x ∈ p1, x.block < W.heap.size := by obtain ⟨m, hm⟩ := k1; exact DataW.trod_lt m _ _ _ hm
  obtain ⟨nm, kd, iv, il, w1⟩ : ∃ (nm kd : Nat → Int) (iv : Nat → Value) (il : Nat → Nat), 0 < len1 → ∃ b0 o0, a1 = some ⟨b0, o0, none⟩ ∧ In W b0 o0 len1 nm kd iv il := by
    obtain ⟨fuel, hf⟩ := h1
    exact open_in hf
  clear hA0 hval0
  refine (walk a0 a1 len1 cap1 nm kd iv il W w0 w1).mono fun e W' ⟨he, bel⟩ => ?_
  subst he
  exact ⟨_, rfl, _, _, _, [], _, [], hW', trodAll_mk1 (shut_bool Yba.underlying4 _), (trodAll_cons_mk (shut_int Yba.underlying5 w0) (trodAll_cons_mk (Below.trod laidOut (by kernel_rfl) (of_decide_eq_true (by kernel_rfl)) k1 bel lt1) trodAll_mk0)), rfl, bel.frame _, fun h => by cases h⟩

theorem over : Rows.lawS2767AAppendRow.holds Yba.pinned (OpenSpec.ofChange Rows.lawS2767AAppendSpec) :=
  OpenClaim.holds_of_wide 3 Yba.f3 rfl rfl rfl rfl rfl rfl rfl ⟨rfl, rfl, rfl, rfl, rfl⟩ rfl rfl rfl rfl rfl (by kernel_rfl) Yba.func3 (by kernel_rfl)
    (of_decide_eq_true (by kernel_rfl)) (by unfold Func.isWrapper; first | (rw [if_pos (by decide +kernel)]; kernel_rfl) | (rw [if_neg (by decide +kernel)]; exact ⟨rfl, rfl⟩))
    (fun os started H enc _ => lifted os started H enc)

/-- ████ THE STATEMENT ████ -/
theorem proved : Rows.LawS2767AAppendSaid := over
end Go.Proofs.Ybulkbegy.lawS2767AAppend
