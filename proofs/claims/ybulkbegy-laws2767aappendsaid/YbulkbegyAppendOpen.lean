/-
  'LawS2767AAppend' (function 3): the entries as they come in, opened.
-/
import Derived.Test.YbulkbegyAppendParts
import Derived.WalkKit
import Derived.ProofKit
import Derived.OpenShut
import Derived.Deep.Slices
namespace Go.Proofs.Ybulkbegy
open Go.RowKit Go.ChangeShapes Go.WideShapes

section
variable {H : Type} {enc : TypeId × Value → H} {P : Program} {w : World} {base : Nat} {held : Bool}

/-- A slice of structs of three fields, a cell each. -/
theorem open3 {t e : TypeId} {f0 f1 f2 : Field} {fuel len cap : Nat} {ea : Option Addr} {x : DataW H × List MemPlace} (ht : P.underlying t = some (.slice e)) (he : P.underlying e = some (.struct #[f0, f1, f2]))
    (ce : P.cellsOf e = 3) (o0 : f0.offset = 0) (o1 : f1.offset = 1) (o2 : f2.offset = 2) (c0 : P.cellsOf f0.type = 1) (c1 : P.cellsOf f1.type = 1) (c2 : P.cellsOf f2.type = 1)
    (h : DataW.trod enc P w base (fun _ => true) held fuel t [.slice ea len cap] = some x) (hl : 0 < len) :
    ∃ (b o n : Nat), ea = some ⟨b, o, none⟩ ∧ b < w.heap.size ∧ ∀ i, i < len → ∃ (v0 v1 v2 : Value) (y0 y1 y2 : DataW H × List MemPlace),
      w.cell? ⟨b, o + i * 3, none⟩ = some v0 ∧ w.cell? ⟨b, o + i * 3 + 1, none⟩ = some v1 ∧ w.cell? ⟨b, o + i * 3 + 2, none⟩ = some v2 ∧
      DataW.trod enc P w base (fun _ => true) held n f0.type [v0] = some y0 ∧ DataW.trod enc P w base (fun _ => true) held n f1.type [v1] = some y1 ∧ DataW.trod enc P w base (fun _ => true) held n f2.type [v2] = some y2 := by
  rcases Deep.open_slice ht h with ⟨hcs, _⟩ | ⟨a, len', cap', m, n, D, Pl, hcs, _, hlc, _, hmm, _, hx⟩
  · simp at hcs
    omega
  simp only [List.cons.injEq, Value.slice.injEq, and_true] at hcs
  obtain ⟨rfl, rfl, rfl⟩ := hcs
  simp only [if_true] at hmm
  subst hmm
  have each : ∀ i, i < len → ∃ (v0 v1 v2 : Value) (y0 y1 y2 : DataW H × List MemPlace), w.cell? (a.add (i * 3)) = some v0 ∧ w.cell? (a.add (i * 3 + 1)) = some v1 ∧ w.cell? (a.add (i * 3 + 2)) = some v2 ∧
      DataW.trod enc P w base (fun _ => true) held (n - 1) f0.type [v0] = some y0 ∧ DataW.trod enc P w base (fun _ => true) held (n - 1) f1.type [v1] = some y1 ∧ DataW.trod enc P w base (fun _ => true) held (n - 1) f2.type [v2] = some y2 := by
    intro i hi
    obtain ⟨cs', h1, h2⟩ := hx i (by omega)
    rw [ce] at h1
    obtain ⟨_, hlen, hcell⟩ := World.cells?_some h1
    obtain ⟨xs, k, hk, hxy, _, hxl, hf⟩ := DataW.trod_struct he h2
    have hk' : k = n - 1 := by omega
    subst hk'
    match xs, hxl, cs', hlen with
    | [y0, y1, y2], _, [v0, v1, v2], _ =>
      have g0 := hf 0 f0 rfl
      have g1 := hf 1 f1 rfl
      have g2 := hf 2 f2 rfl
      simp [o0, o1, o2, c0, c1, c2] at g0 g1 g2
      have e0 := hcell 0 (by omega)
      have e1 := hcell 1 (by omega)
      have e2 := hcell 2 (by omega)
      rw [Deep.add_add] at e0 e1 e2
      exact ⟨v0, v1, v2, y0, y1, y2, by simpa using e0, by simpa using e1, by simpa using e2, g0, g1, g2⟩
  obtain ⟨b, o, spot⟩ := a
  obtain ⟨v0, _, _, _, _, _, e0, _⟩ := each 0 hl
  have hspot : spot = none := by simpa [Addr.add] using World.cell?_spot e0
  subst hspot
  rw [add_plain] at e0
  refine ⟨b, o, n - 1, rfl, World.block_lt_of_cell? w _ e0, fun i hi => ?_⟩
  obtain ⟨v0, v1, v2, y0, y1, y2, d0, d1, d2, r⟩ := each i hi
  rw [add_plain] at d0 d1 d2
  exact ⟨v0, v1, v2, y0, y1, y2, d0, d1, d2, r⟩
end

/-- The entries, opened whole. -/
theorem open_in {H : Type} {enc : TypeId × Value → H} {w : World} {base : Nat} {held : Bool} {fuel len cap : Nat} {ea : Option Addr} {x : DataW H × List MemPlace}
    (h : DataW.trod enc Yba.prog w base (fun _ => true) held fuel 22 [.slice ea len cap] = some x) :
    ∃ (nm kd : Nat → Int) (iv : Nat → Value) (il : Nat → Nat), 0 < len → ∃ b0 o0, ea = some ⟨b0, o0, none⟩ ∧ In w b0 o0 len nm kd iv il := by
  by_cases hl : 0 < len
  · obtain ⟨b, o, n, rfl, hb, hx⟩ := open3 Yba.underlying22 Yba.underlying25 (by kernel_rfl) rfl rfl rfl (by kernel_rfl) (by kernel_rfl) (by kernel_rfl) h hl
    have each : ∀ i, i < len → ∃ q : Int × Int × Value × Nat, w.cell? ⟨b, o + i * 3, none⟩ = some (.int .u8 q.1) ∧ w.cell? ⟨b, o + i * 3 + 1, none⟩ = some (.int .u8 q.2.1) ∧ w.cell? ⟨b, o + i * 3 + 2, none⟩ = some q.2.2.1 ∧
        (0 ≤ q.1 ∧ q.1 ≤ 255) ∧ (0 ≤ q.2.1 ∧ q.2.1 ≤ 255) ∧ (∃ a c, q.2.2.1 = .slice a q.2.2.2 c ∧ (0 < q.2.2.2 → ∃ ib io, a = some ⟨ib, io, none⟩ ∧ ib < w.heap.size ∧ ∀ j, j < q.2.2.2 → ∃ x y z : Int,
          (0 ≤ x ∧ x ≤ 255) ∧ (0 ≤ y ∧ y ≤ 255) ∧ (0 ≤ z ∧ z ≤ 255) ∧ w.cell? ⟨ib, io + j * 3, none⟩ = some (.int .u8 x) ∧ w.cell? ⟨ib, io + j * 3 + 1, none⟩ = some (.int .u8 y) ∧ w.cell? ⟨ib, io + j * 3 + 2, none⟩ = some (.int .u8 z))) := by
      intro i hi
      obtain ⟨v0, v1, v2, y0, y1, y2, d0, d1, d2, t0, t1, t2⟩ := hx i hi
      obtain ⟨a0, hv0, _, w0⟩ := DataW.trod_int Yba.underlying5 t0
      obtain ⟨a1, hv1, _, w1⟩ := DataW.trod_int Yba.underlying5 t1
      simp only [List.cons.injEq, and_true] at hv0 hv1
      subst hv0 hv1
      have hsl : ∃ a l c, v2 = .slice a l c := by
        rcases Deep.open_slice Yba.underlying23 t2 with ⟨hcs, _⟩ | ⟨a, l, c, m, n', D, Pl, hcs, _⟩
        · exact ⟨_, _, _, by simpa using hcs⟩
        · exact ⟨_, _, _, by simpa using hcs⟩
      obtain ⟨a, l, c, rfl⟩ := hsl
      refine ⟨(a0, a1, .slice a l c, l), d0, d1, d2, bounds_u8 w0, bounds_u8 w1, a, c, rfl, fun h0 => ?_⟩
      obtain ⟨ib, io, n2, rfl, hib, hy⟩ := open3 Yba.underlying23 Yba.underlying51 (by kernel_rfl) rfl rfl rfl (by kernel_rfl) (by kernel_rfl) (by kernel_rfl) t2 h0
      refine ⟨ib, io, rfl, hib, fun j hj => ?_⟩
      obtain ⟨u0, u1, u2, z0, z1, z2, p0, p1, p2, s0, s1, s2⟩ := hy j hj
      obtain ⟨x0, hu0, _, x0w⟩ := DataW.trod_int Yba.underlying5 s0
      obtain ⟨x1, hu1, _, x1w⟩ := DataW.trod_int Yba.underlying5 s1
      obtain ⟨x2, hu2, _, x2w⟩ := DataW.trod_int Yba.underlying5 s2
      simp only [List.cons.injEq, and_true] at hu0 hu1 hu2
      subst hu0 hu1 hu2
      exact ⟨x0, x1, x2, bounds_u8 x0w, bounds_u8 x1w, bounds_u8 x2w, p0, p1, p2⟩
    obtain ⟨q, hq⟩ := Deep.choose_lt (α := Int × Int × Value × Nat) (h := each)
    exact ⟨fun i => (q i).1, fun i => (q i).2.1, fun i => (q i).2.2.1, fun i => (q i).2.2.2, fun _ => ⟨b, o, rfl, hb, fun i hi => (hq i hi).1, fun i hi => (hq i hi).2.1, fun i hi => (hq i hi).2.2.1,
      fun i hi => (hq i hi).2.2.2.2.2, fun i hi => (hq i hi).2.2.2.1, fun i hi => (hq i hi).2.2.2.2.1⟩⟩
  · exact ⟨fun _ => 0, fun _ => 0, fun _ => .slice none 0 0, fun _ => 0, fun h => absurd h hl⟩
end Go.Proofs.Ybulkbegy
