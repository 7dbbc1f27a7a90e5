/-
  'LawS2767AAppend' (function 3): what stands when the two last loops begin.
-/
import Derived.Test.YbulkbegyL3K0
import Derived.LaidEqlPtr
namespace Go.Proofs.Ybulkbegy
open Go.RowKit

theorem neq_same {P : Program} {tp te : TypeId} (hp : P.underlying tp = some (.pointer te)) (hte : (P.info? te).isSome = true) (w : World) (q : Option Addr) :
    (binOp .neq tp (.pointer q) (.pointer q)).run P w = .ok (.bool false) w := by
  obtain ⟨j, hte⟩ := Option.isSome_iff_exists.1 hte
  have h : ∀ d : Nat, (Op.equalIn (d + 1) tp (.pointer q) (.pointer q)).run P w = .ok true w := fun d => by
    cases q <;> simp [Op.equalIn, run_underlying hp, sizeOf, typeInfo, hte, run_sameAddr_same]
  simp only [binOp]
  simp [Op.equal, Op.maxDepth, h 9999]
theorem neq27 : ∀ (w : World) (q : Option Addr), (binOp .neq 27 (.pointer q) (.pointer q)).run Yba.prog w = .ok (.bool false) w := neq_same (te := 34) (by kernel_rfl) (by kernel_rfl)
theorem neq28 : ∀ (w : World) (q : Option Addr), (binOp .neq 28 (.pointer q) (.pointer q)).run Yba.prog w = .ok (.bool false) w := neq_same (te := 49) (by kernel_rfl) (by kernel_rfl)
theorem neq29 : ∀ (w : World) (q : Option Addr), (binOp .neq 29 (.pointer q) (.pointer q)).run Yba.prog w = .ok (.bool false) w := neq_same (te := 39) (by kernel_rfl) (by kernel_rfl)
theorem neq30 : ∀ (w : World) (q : Option Addr), (binOp .neq 30 (.pointer q) (.pointer q)).run Yba.prog w = .ok (.bool false) w := neq_same (te := 55) (by kernel_rfl) (by kernel_rfl)

theorem own_parts {R : Nat → Nat} {q N : Nat} {X : World} {e : TypeId} {v : Value} {n : Nat} {xs : List Value} (h : Own R q N X e v n xs) :
    ∃ (g : Nat) (a : Option Addr) (c : Nat), v = .slice a n c ∧ (0 < n → a = some ⟨g, 0, none⟩) ∧ ∀ i, i < n → X.cell? ⟨g, i, none⟩ = xs[i]? := by
  by_cases hn : 0 < n
  · obtain ⟨g, cap, hv, hc⟩ := h.some_at hn
    exact ⟨g, _, cap, hv, fun _ => rfl, hc⟩
  · obtain ⟨a, c, hv⟩ := h.slice_len
    exact ⟨0, a, c, hv, fun h' => absurd h' hn, fun i hi => absurd hi (by omega)⟩

/-- The ref at place k, and what is expected there. -/
def RefAt (X : World) (p g gD gN gS gA k : Nat) : Prop :=
  ∃ (rb d nb : Nat) (s : ByteArray) (al : Option Addr), X.cell? ⟨g, p + k, none⟩ = some (.pointer (some ⟨rb, 0, none⟩)) ∧
    X.cell? ⟨rb, 0, none⟩ = some (.pointer (some ⟨d, 0, none⟩)) ∧ X.cell? ⟨rb, 1, none⟩ = some (.pointer (some ⟨nb, 0, none⟩)) ∧ X.cell? ⟨rb, 2, none⟩ = some (.string s) ∧ X.cell? ⟨rb, 3, none⟩ = some (.pointer al) ∧
    X.cell? ⟨rb, 4, none⟩ = some (.pointer none) ∧ X.cell? ⟨rb, 5, none⟩ = some (.pointer none) ∧ X.cell? ⟨rb, 6, none⟩ = some (.pointer none) ∧
    X.cell? ⟨gD, k, none⟩ = some (.pointer (some ⟨d, 0, none⟩)) ∧ X.cell? ⟨gS, k, none⟩ = some (.string s) ∧ X.cell? ⟨gA, k, none⟩ = some (.pointer al) ∧
    (X.cell? ⟨gN, k, none⟩ = some (.pointer (some ⟨nb, 0, none⟩)) ∨ (X.cell? ⟨gN, k, none⟩ = some (.pointer none) ∧ X.cell? ⟨nb, 3, none⟩ = some (.slice none 0 0)))

structure Fin3 (N : Nat) (w : World) (p m g pb gD gN gS gA : Nat) (X : World) : Prop where
  bel : Below N w X
  f1 : ∀ i, i < p → ∃ b, X.cell? ⟨g, i, none⟩ = some (.pointer (some ⟨b, 0, none⟩)) ∧ X.cell? ⟨pb, i, none⟩ = some (.pointer (some ⟨b, 0, none⟩))
  f2 : ∀ k, k < m → RefAt X p g gD gN gS gA k

theorem Fin3.drewN {N : Nat} {w : World} {p m g pb gD gN gS gA : Nat} {X : World} (h : Fin3 N w p m g pb gD gN gS gA X) (n : Nat) : Fin3 N w p m g pb gD gN gS gA (X.drewN n) :=
  ⟨h.bel.trans ⟨rfl, rfl, rfl, Nat.le_refl _, fun _ _ => rfl⟩, h.f1, h.f2⟩

theorem ref_at {p k g gD gN gS gA : Nat} {R1 : Nat → Nat} {X : World} {ps : List Value} {prs : List (Ent × Nat × Nat)} {t : Ent × Nat × Nat} (hp : ps.length = p) (ht : prs[k]? = some t) (hr : RefOk R1 X t)
    (hg : X.cell? ⟨g, p + k, none⟩ = (ps ++ prs.map fun t => ptr t.2.1)[p + k]?) (hD : X.cell? ⟨gD, k, none⟩ = (prs.map fun t => wdef t.1)[k]?) (hN : X.cell? ⟨gN, k, none⟩ = (prs.map fun t => wnode t.1)[k]?)
    (hS : X.cell? ⟨gS, k, none⟩ = (prs.map fun t => Value.string (wname t.1))[k]?) (hA : X.cell? ⟨gA, k, none⟩ = (prs.map fun t => walias t.1)[k]?) : RefAt X p g gD gN gS gA k := by
  rw [List.getElem?_append_right (by omega), hp, Nat.add_sub_cancel_left, List.getElem?_map, ht] at hg
  rw [List.getElem?_map, ht] at hD hN hS hA
  have hal : ∃ q, walias t.1 = .pointer q := by
    unfold walias
    split
    · exact alias_ptr _
    · exact ⟨none, rfl⟩
  obtain ⟨al, hal⟩ := hal
  have ho : t.1.kd ≤ 1 := by
    have := hr.out
    simpa [isOut] using this
  rcases (show t.1.kd = 0 ∨ t.1.kd = 1 by omega) with hk | hk
  · have hi := hr.h0 hk
    have hw : wnode t.1 = ptr t.1.vb := by unfold wnode; rw [if_pos hk]
    refine ⟨t.2.1, t.1.db, t.1.vb, wname t.1, al, hg, hi.cell 0, ?_, hi.cell 2, ?_, hi.cell 4, hi.cell 5, hi.cell 6, hD, hS, ?_, Or.inl ?_⟩
    · rw [hi.cell 1]; simp [hw]; rfl
    · rw [hi.cell 3]; simp [hal]
    · rw [hA]; simp [hal]
    · rw [hN]; simp [hw]; rfl
  · obtain ⟨hi, hn⟩ := hr.h1 hk
    have hw : wnode t.1 = nilp := by unfold wnode; rw [if_neg (by omega)]
    refine ⟨t.2.1, t.1.db, t.2.2, wname t.1, al, hg, hi.cell 0, hi.cell 1, hi.cell 2, ?_, hi.cell 4, hi.cell 5, hi.cell 6, hD, hS, ?_, Or.inr ⟨?_, hn.cell 3⟩⟩
    · rw [hi.cell 3]; simp [hal]
    · rw [hA]; simp [hal]
    · rw [hN]; simp [hw]; rfl

theorem fin3 {N p pb bb : Nat} {w X w1 : World} {bs : List Nat} {vL : Value} {R R1 : Nat → Nat} {es : List Ent} {vB vD vN vS vA v : Value} {prs : List (Ent × Nat × Nat)} (M : MainRel N w p bs vL pb bb R es vB vD vN vS vA X) (hNX : N ≤ X.heap.size)
    (hprs : prs.map (·.1) = (es.take es.length).filter isOut) (hs : Step R R1 [1] X w1) (hO : Own R1 1 N w1 27 v (p + prs.length) (bs.map ptr ++ prs.map fun t => ptr t.2.1)) (href : ∀ t ∈ prs, RefOk R1 w1 t) :
    ∃ (g gD gN gS gA : Nat) (a aD aN aS aA : Option Addr) (c cD cN cS cA : Nat), v = .slice a (p + prs.length) c ∧ vD = .slice aD prs.length cD ∧ vN = .slice aN prs.length cN ∧ vS = .slice aS prs.length cS ∧ vA = .slice aA prs.length cA ∧
      (0 < p + prs.length → a = some ⟨g, 0, none⟩) ∧ (0 < prs.length → aD = some ⟨gD, 0, none⟩) ∧ (0 < prs.length → aN = some ⟨gN, 0, none⟩) ∧ (0 < prs.length → aS = some ⟨gS, 0, none⟩) ∧ (0 < prs.length → aA = some ⟨gA, 0, none⟩) ∧
      Fin3 N w p prs.length g pb gD gN gS gA w1 := by
  have hout : outs es = prs.map (·.1) := by rw [hprs, List.take_length]; rfl
  have hbs : (bs.map ptr).length = p := M.hL.length
  have hD := M.hD.step hs (by simp)
  have hN := M.hN.step hs (by simp)
  have hS := M.hS.step hs (by simp)
  have hA := M.hA.step hs (by simp)
  have hP := M.hP.step hs (by simp)
  rw [hout] at hD hN hS hA
  simp only [List.map_map, List.length_map] at hD hN hS hA
  obtain ⟨g, a, c, rfl, e0, k0⟩ := own_parts hO
  obtain ⟨gD, aD, cD, rfl, e1, k1⟩ := own_parts hD
  obtain ⟨gN, aN, cN, rfl, e2, k2⟩ := own_parts hN
  obtain ⟨gS, aS, cS, rfl, e3, k3⟩ := own_parts hS
  obtain ⟨gA, aA, cA, rfl, e4, k4⟩ := own_parts hA
  refine ⟨g, gD, gN, gS, gA, a, aD, aN, aS, aA, c, cD, cN, cS, cA, rfl, rfl, rfl, rfl, rfl, e0, e1, e2, e3, e4, M.bel.trans (hs.below hNX M.old (by simp)), fun i hi => ?_, fun k hk => ?_⟩
  · have hi' : i < bs.length := by simpa [← hbs] using hi
    refine ⟨bs[i], ?_, ?_⟩
    · rw [k0 i (by omega), List.getElem?_append_left (by simpa using hi')]
      simp [hi']
      rfl
    · rw [hP.cell]
      simp [hi']
      rfl
  · exact ref_at hbs (List.getElem?_eq_getElem hk) (href _ (List.getElem_mem _)) (k0 _ (by omega)) (k1 k hk) (k2 k hk) (k3 k hk) (k4 k hk)
end Go.Proofs.Ybulkbegy
