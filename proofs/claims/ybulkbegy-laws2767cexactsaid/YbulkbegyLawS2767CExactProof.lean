/-
  'Rows.LawS2767CExactSaid': the frame (after proof-skeleton.mjs, a slice of bools added by hand) round the walks.
-/
import Derived.Test.YbulkbegyRows
import Derived.WalkKit
import Derived.ProofKit
import Derived.OpenShut
import Derived.ShutString
import Derived.ChangeOld
import Derived.Below
import Derived.Deep.Grids
import Derived.Test.YbulkbegyCExactEdge
namespace Go.Proofs.Ybulkbegy.lawS2767CExact
open Go.ChangeShapes Go.WideShapes Go.ChangeAt Go.RowKit
open Go.ChangeMaps (open_string shut_string)
set_option linter.unusedVariables false

theorem own : ownKnob Yba.prog.godebug = none := by kernel_rfl
theorem laidOut : laidOutB Yba.prog = true := by kernel_rfl

/-- WHAT THE WALK IS TOLD OF A SLICE OF INTEGERS THAT CAME IN: it is nil; or it leads to a row of 'cap' cells, the numbers 'zs' (the first 'len' are its elements, the rest its spare room), each fitting its kind. -/
def IsRow (k : IntKind) (w : World) (a : Option Addr) (len cap : Nat) (zs : List Int) : Prop :=
  (a = none ∧ len = 0 ∧ cap = 0 ∧ zs = []) ∨
  ∃ x, a = some x ∧ len ≤ cap ∧ cap ≤ maxLen ∧ zs.length = cap ∧ (∀ i, i < zs.length → w.cell? (x.add i) = some (.int k (zs.getD i 0))) ∧ ∀ n ∈ zs, (Lit.int k n).wf = true

def IsBools (w : World) (a : Option Addr) (len : Nat) (B : Nat → Bool) : Prop :=
  len = 0 ∨ ∃ x, a = some x ∧ len ≤ maxLen ∧ ∀ i, i < len → w.cell? (x.add i) = some (.bool (B i))

theorem lt_of_cell {w : World} {a : Addr} {v : Value} (h : w.cell? a = some v) : a.block < w.heap.size := by
  rcases Nat.lt_or_ge a.block w.heap.size with hlt | hge
  · exact hlt
  · rw [World.cell?, Array.getElem?_eq_none hge] at h
    simp at h

theorem walk (a0 : Option Addr) (len0 cap0 : Nat) (z0 : List Int) (a1 : Option Addr) (len1 cap1 : Nat) (B : Nat → Bool) (a2 : Int) (a3 : Int) (a4 : Int) (w : World) (w0 : IsRow .i64 w a0 len0 cap0 z0) (w1 : IsBools w a1 len1 B) (w2 : (Lit.int .u16 a2).wf = true) :
    Calls Yba.prog 5 #[.slice a0 len0 cap0, .slice a1 len1 cap1, .int .u16 a2, .int .i64 a3, .int .i64 a4] w fun e w' => e = .returned (.bool true) ∧ Below w.heap.size w w' := by
  have hx := bounds_u16 w2
  by_cases hbig : 1024 < len0
  · exact law_big w a0 len0 cap0 _ a2 a3 a4 hbig
  by_cases hz : len0 = 0
  · subst hz
    exact law_zero w a0 cap0 _ a2 a3 a4 (by omega) (by omega)
  rcases w0 with ⟨_, h, _⟩ | ⟨x, rfl, hlc, hm, hzl, hcell, _⟩
  · exact absurd h hz
  obtain ⟨b0, o0, rfl, hc⟩ := ints_at hcell (by omega)
  have hb0 := lt_of_cell (hc 0 (by omega))
  have hc' : ∀ i, i < len0 → w.cell? ⟨b0, o0 + i, none⟩ = some (.int .i64 (z0.getD i 0)) := fun i hi => hc i (by omega)
  rcases w1 with h1 | ⟨y, rfl, hl1, hB⟩
  · subst h1
    exact law_pos w b0 o0 len0 cap0 (fun i => z0.getD i 0) a1 0 0 0 cap1 B a2 a3 a4 (by omega) (by omega) hb0 hc' (by omega) (Or.inl rfl) (fun h => absurd h (by omega)) (fun i h => absurd h (by omega)) (by omega) (by omega)
  · by_cases h1 : len1 = 0
    · subst h1
      exact law_pos w b0 o0 len0 cap0 (fun i => z0.getD i 0) (some y) 0 0 0 cap1 B a2 a3 a4 (by omega) (by omega) hb0 hc' (by omega) (Or.inl rfl) (fun h => absurd h (by omega)) (fun i h => absurd h (by omega)) (by omega) (by omega)
    · obtain ⟨b1, o1, spot⟩ := y
      have hspot : spot = none := by simpa [Addr.add] using World.cell?_spot (hB 0 (by omega))
      subst hspot
      have hB' : ∀ i, i < len1 → w.cell? ⟨b1, o1 + i, none⟩ = some (.bool (B i)) := fun i hi => by rw [← Go.WideShapes.add_plain]; exact hB i hi
      exact law_pos w b0 o0 len0 cap0 (fun i => z0.getD i 0) _ b1 o1 len1 cap1 B a2 a3 a4 (by omega) (by omega) hb0 hc' (by unfold maxLen at hl1; omega) (Or.inr rfl) (fun _ => lt_of_cell (hB' 0 (by omega))) hB' (by omega) (by omega)

/-! ### THE ROW's STEP: WRITTEN OUT: LEAVE IT -/
set_option maxRecDepth 100000 in
theorem lifted (os : Os) (started : os.Started) (H : Type) (enc : TypeId × Value → H) :
    ReturnsInHanded {} Yba.checked os 5 .any (Rows.lawS2767CExactSpec.pre6 enc Yba.prog Yba.f5 Rows.lawS2767CExactRow.domain false) (Rows.lawS2767CExactSpec.post enc Yba.prog Yba.f5 false true false false) := by
  refine returnsInHanded_of_change (C := Yba.checked) own started (by kernel_rfl) Yba.func5
    (ChangeSpec.witness6 (enc := enc) (C := Yba.checked) false ⟨#[], #[.slice none 0 0, .slice none 0 0, .int .u16 0, .int .i64 0, .int .i64 0], []⟩ 8 (by kernel_rfl) (by kernel_rfl) (by kernel_rfl) (by kernel_rfl)) ?_
  intro W base args ds gs before hval0 hW hcnd _
  have hval : ∀ (j : Nat) t v, Yba.f5.params[j]? = some t → args[j]? = some v → Value.okWide Yba.prog W .any base t v := hval0
  have hW' := hW
  obtain ⟨p, q, hA0, hV, rfl, hfz, hnd⟩ := hW
  have hA : DataW.TrodAll enc Yba.prog W 0 (fun _ => true) true Yba.f5.params.toList args.toList ds p := hA0
  rw [Yba.params5] at hA hval
  obtain ⟨v0, vs0, d0, ds0, p0, q0, hargs, rfl, rfl, h0, r0⟩ := trodAll_cons hA
  obtain ⟨v1, vs1, d1, ds1, p1, q1, rfl, rfl, rfl, h1, r1⟩ := trodAll_cons r0
  obtain ⟨v2, vs2, d2, ds2, p2, q2, rfl, rfl, rfl, h2, r2⟩ := trodAll_cons r1
  obtain ⟨v3, vs3, d3, ds3, p3, q3, rfl, rfl, rfl, h3, r3⟩ := trodAll_cons r2
  obtain ⟨v4, vs4, d4, ds4, p4, q4, rfl, rfl, rfl, h4, r4⟩ := trodAll_cons r3
  obtain ⟨rfl, rfl, rfl⟩ := trodAll_nil r4
  obtain rfl : args = #[v0, v1, v2, v3, v4] := by cases args; simp_all
  obtain ⟨rfl, rfl⟩ := trodVars_none hV
  obtain ⟨a0, len0, cap0, rfl⟩ := okWide_slice Yba.underlying66 (hval 0 66 v0 rfl rfl)
  have k0 := h0
  have lt0 : ∀ x ∈ p0, x.block < W.heap.size := by obtain ⟨m, hm⟩ := k0; exact DataW.trod_lt m _ _ _ hm
  obtain ⟨z0, w0⟩ : ∃ zs, IsRow .i64 W a0 len0 cap0 zs := by
    obtain ⟨fuel, hf⟩ := h0
    rcases open_ints Yba.underlying66 Yba.underlying3 (by kernel_rfl) hf with ⟨hcs, _⟩ | ⟨x, l, c, zs, hcs, _, hl, hm, hz, _, hcell, hwz⟩
    · simp [Value.cells] at hcs
      obtain ⟨rfl, rfl, rfl⟩ := hcs
      exact ⟨[], .inl ⟨rfl, rfl, rfl, rfl⟩⟩
    · simp [Value.cells] at hcs
      obtain ⟨rfl, rfl, rfl⟩ := hcs
      exact ⟨zs, .inr ⟨_, rfl, hl, hm, by simpa using hz, hcell, hwz⟩⟩
  obtain ⟨a1, len1, cap1, rfl⟩ := okWide_slice Yba.underlying67 (hval 1 67 v1 rfl rfl)
  have k1 := h1
  have lt1 : ∀ x ∈ p1, x.block < W.heap.size := by obtain ⟨m, hm⟩ := k1; exact DataW.trod_lt m _ _ _ hm
  obtain ⟨B, w1⟩ : ∃ B, IsBools W a1 len1 B := by
    obtain ⟨fuel, hf⟩ := h1
    rcases Deep.open_bools Yba.underlying67 Yba.underlying4 (by kernel_rfl) hf with ⟨hcs, _⟩ | ⟨x, l, c, B, hcs, _, hl, hm, _, hcell⟩
    · simp [Value.cells] at hcs
      obtain ⟨rfl, rfl, rfl⟩ := hcs
      exact ⟨fun _ => false, .inl rfl⟩
    · simp [Value.cells] at hcs
      obtain ⟨rfl, rfl, rfl⟩ := hcs
      exact ⟨B, .inr ⟨_, rfl, by omega, fun i hi => hcell i (by omega)⟩⟩
  obtain ⟨a2, rfl, rfl, rfl, w2⟩ := open_int Yba.underlying68 (hval 2 68 v2 rfl rfl) h2
  obtain ⟨a3, rfl, rfl, rfl, w3⟩ := open_int Yba.underlying3 (hval 3 3 v3 rfl rfl) h3
  obtain ⟨a4, rfl, rfl, rfl, w4⟩ := open_int Yba.underlying3 (hval 4 3 v4 rfl rfl) h4
  clear hA0 hval0
  refine (walk a0 len0 cap0 z0 a1 len1 cap1 B a2 a3 a4 W w0 w1 w2).mono fun e W' ⟨he, bel⟩ => ?_
  subst he
  exact ⟨_, rfl, _, _, _, [], _, [], hW', trodAll_mk1 (shut_bool Yba.underlying4 _), (trodAll_cons_mk (Below.trod laidOut (by kernel_rfl) (of_decide_eq_true (by kernel_rfl)) k0 bel lt0) (trodAll_cons_mk (Below.trod laidOut (by kernel_rfl) (of_decide_eq_true (by kernel_rfl)) k1 bel lt1) (trodAll_cons_mk (shut_int Yba.underlying68 w2) (trodAll_cons_mk (shut_int Yba.underlying3 w3) (trodAll_cons_mk (shut_int Yba.underlying3 w4) trodAll_mk0))))), rfl, bel.frame _, fun h => by cases h⟩

theorem over : Rows.lawS2767CExactRow.holds Yba.pinned (OpenSpec.ofChange Rows.lawS2767CExactSpec) :=
  OpenClaim.holds_of_wide 5 Yba.f5 rfl rfl rfl rfl rfl rfl rfl ⟨rfl, rfl, rfl, rfl, rfl⟩ rfl rfl rfl rfl rfl (by kernel_rfl) Yba.func5 (by kernel_rfl)
    (of_decide_eq_true (by kernel_rfl)) (by unfold Func.isWrapper; first | (rw [if_pos (by decide +kernel)]; kernel_rfl) | (rw [if_neg (by decide +kernel)]; exact ⟨rfl, rfl⟩))
    (fun os started H enc _ => lifted os started H enc)

/-- ████ THE STATEMENT ████ -/
theorem proved : Rows.LawS2767CExactSaid := over
end Go.Proofs.Ybulkbegy.lawS2767CExact
