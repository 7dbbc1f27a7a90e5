/-
  'LawS2767AAppend' (function 3): what its loops keep.
-/
import Derived.Test.YbulkbegyRefsAny
import Derived.Laws.CopyOwn
import Derived.Deep.OwnRows
namespace Go.Proofs.Ybulkbegy
open Go.RowKit
set_option linter.unusedVariables false
set_option linter.unusedSimpArgs false

/-- The entries as they came in. -/
structure In (w : World) (b0 o0 n : Nat) (nm kd : Nat → Int) (iv : Nat → Value) (il : Nat → Nat) : Prop where
  lt : b0 < w.heap.size
  c0 : ∀ i, i < n → w.cell? ⟨b0, o0 + i * 3, none⟩ = some (.int .u8 (nm i))
  c1 : ∀ i, i < n → w.cell? ⟨b0, o0 + i * 3 + 1, none⟩ = some (.int .u8 (kd i))
  c2 : ∀ i, i < n → w.cell? ⟨b0, o0 + i * 3 + 2, none⟩ = some (iv i)
  sl : ∀ i, i < n → ∃ a c, iv i = .slice a (il i) c ∧ (0 < il i → ∃ ib io, a = some ⟨ib, io, none⟩ ∧ ib < w.heap.size ∧ ∀ j, j < il i → ∃ x y z : Int,
    (0 ≤ x ∧ x ≤ 255) ∧ (0 ≤ y ∧ y ≤ 255) ∧ (0 ≤ z ∧ z ≤ 255) ∧ w.cell? ⟨ib, io + j * 3, none⟩ = some (.int .u8 x) ∧ w.cell? ⟨ib, io + j * 3 + 1, none⟩ = some (.int .u8 y) ∧ w.cell? ⟨ib, io + j * 3 + 2, none⟩ = some (.int .u8 z))
  nb : ∀ i, i < n → 0 ≤ nm i ∧ nm i ≤ 255
  kb : ∀ i, i < n → 0 ≤ kd i ∧ kd i ≤ 255

/-- The list of refs that stand already: k of them. -/
def ListRel (N : Nat) (w : World) (k : Nat) (v : Value) (wr : World) : Prop :=
  ∃ (R : Nat → Nat) (bs : List Nat), Own R 1 N wr 27 v k (bs.map ptr) ∧ (∀ b, b < N → R b = 99) ∧ Below N w wr

theorem list_start (w : World) (p : Nat) (hp : p ≤ 3) : ListRel w.heap.size w 0 (.slice (some ⟨w.heap.size, 0, none⟩) 0 p) (w.alloc (.cells (madeCells #[.pointer none] p) 27)) := by
  refine ⟨upd (fun _ => 99) w.heap.size 1, [], ⟨?_, fun b hb => ?_⟩, fun b hb => ?_, (Below.refl _ _).alloc (Nat.le_refl _) _⟩
  · exact World.ownsRow_made w (madeCells #[.pointer none] p) p (Nat.le_refl _) (by unfold maxLen; omega) (by rw [size_madeCells]; omega)
  · simp [Value.ownBlock] at hb
    subst hb
    exact upd_same _ _ _
  · exact upd_other _ _ (by omega)

theorem list_next {N k : Nat} {w wr w1 : World} {v v' : Value} {R : Nat → Nat} {bs : List Nat} {o0 o1 : Obj} {c : Nat} (hO : Own R 1 N wr 27 v k (bs.map ptr)) (hold : ∀ b, b < N → R b = 99) (hb : Below N w wr) (hN : N ≤ wr.heap.size)
    (hown' : w1.ownsRow N 27 1 v' (k + 1) (bs.map ptr ++ [ptr wr.heap.size])) (hg : ((wr.alloc o0).alloc o1).grownBy w1 v.ownBlock) (hat : v'.ownBlock = v.ownBlock ∨ v'.ownBlock = some c) (hc : c = wr.heap.size + 1 + 1) :
    ListRel N w (k + 1) v' w1 := by
  have s0 := (Step.refl R [1] wr).alloc o0 0
  have hO' := hO.step ((Step.refl R [] wr).alloc o0 0) (by simp)
  obtain ⟨R3, s3, hO3⟩ := hO'.appended (S := [1]) (by simp) hown' hg (by rw [hc] at hat; simpa using hat)
  have s := s0.trans s3
  refine ⟨R3, bs ++ [wr.heap.size], by simpa using hO3, s.old hN hold (by simp), hb.trans (s.below hN hold (by simp))⟩

theorem all_one (bs : List Nat) : ∀ u ∈ bs.map ptr, u.oneCell' = true := by
  intro u hu
  obtain ⟨b, _, rfl⟩ := List.mem_map.1 hu
  rfl

/-- 'copy(prefix, list)'. -/
theorem copy_list {R : Nat → Nat} {N p lc : Nat} {la : Option Addr} {wr : World} {bs : List Nat} (hO : Own R 1 N wr 27 (.slice la p lc) p (bs.map ptr)) :
    ∃ W', (Builtin.copy_ #[26, 26] 3 #[.slice (some ⟨wr.heap.size, 0, none⟩) p p, .slice la p lc]).run Yba.prog (wr.alloc (.cells (madeCells #[.pointer none] p) 27)) = .ok (goInt p) W' ∧
      Step R (upd R wr.heap.size 0) [] wr W' ∧ Im (upd R wr.heap.size 0) 0 W' wr.heap.size (.cells (bs.map ptr).toArray 27) := by
  have hsz : (Yba.prog.info? 27).map (·.size) = some 1 := by
    obtain ⟨i, hi, _, h1, _⟩ := info_parts Yba.info27
    rw [hi]; simp [h1]
  have hl : (bs.map ptr).length = p := hO.length
  have hnew : (wr.alloc (.cells (madeCells #[.pointer none] p) 27)).heap[wr.heap.size]? = some (.cells (madeCells #[.pointer none] p) 27) := (Im.alloc_new wr R 0 _).2
  by_cases h0 : p = 0
  · subst h0
    have hbs : bs = [] := List.eq_nil_of_length_eq_zero (by simpa using hl)
    subst hbs
    refine ⟨_, run_copy_none (P := Yba.prog) _ 26 26 3 27 _ la 0 0 0 lc Yba.underlying26 hsz (by rfl), (Step.refl R [] wr).alloc _ 0, ?_⟩
    have e : (List.map ptr []).toArray = madeCells #[Value.pointer none] 0 := by simp [madeCells]
    rw [e]
    exact Im.alloc_new wr R 0 _
  · obtain ⟨g, cap, hv, hc⟩ := hO.some_at (by omega)
    simp only [Value.slice.injEq, true_and] at hv
    obtain ⟨rfl, rfl⟩ := hv
    have hgl : g < wr.heap.size := by
      have := hc 0 (by omega)
      rw [List.getElem?_eq_getElem (by omega)] at this
      exact World.block_lt_of_cell? wr ⟨g, 0, none⟩ this
    have hrun := run_copy_row (P := Yba.prog) (wr.alloc (.cells (madeCells #[.pointer none] p) 27)) 26 26 3 27 wr.heap.size 0 p p ⟨g, 0, none⟩ p lc _ 27 (bs.map ptr) Yba.underlying26 hsz hnew (by rw [hl]; simp) (fun j v hj => by
      have hjp : j < p := by
        have := List.getElem?_eq_some_iff.1 hj
        obtain ⟨hlt, _⟩ := this
        omega
      rw [show ((⟨g, 0, none⟩ : Addr).add j) = ⟨g, j, none⟩ by simp [Addr.add]; omega]
      rw [World.cell?_alloc_past _ _ _ hgl, hc j hjp, hj]) (by rw [size_madeCells]; omega) (all_one bs)
    rw [hl] at hrun
    have hd : (madeCells #[Value.pointer none] p).toList.drop (0 + p) = [] := List.drop_eq_nil_of_le (by simp [size_madeCells])
    rw [hd] at hrun
    simp only [List.take_zero, List.nil_append, List.append_nil] at hrun
    refine ⟨_, hrun, ?_, ⟨upd_same _ _ _, setRow_heap _ _ _ _ _ _ hnew⟩⟩
    refine ⟨rfl, rfl, rfl, by simp [World.setRow], fun b hb _ => upd_other _ _ (by omega), fun b hb _ => ?_⟩
    rw [setRow_other _ _ _ _ (by omega), Below.heap_alloc _ _ _ hb]

theorem hideP {p : Prop} (h : p) : Hid p := h

def outs (es : List Ent) : List Ent := es.filter isOut
theorem outs_snoc (es : List Ent) (e : Ent) : outs (es ++ [e]) = outs es ++ if isOut e then [e] else [] := by
  unfold outs
  rw [List.filter_append]
  cases h : isOut e <;> simp [h]

/-- What the law's main loop has laid: the entries; the block's slice (vB; cB: as the block's field holds it); the list; the prefix; the four slices of what is expected. -/
structure Main (N : Nat) (w : World) (p : Nat) (bs : List Nat) (vL : Value) (pb bb : Nat) (R : Nat → Nat) (es : List Ent) (cB vB : Value) (xB : List Value) (vD : Value) (xD : List Value) (vN : Value) (xN : List Value) (vS : Value) (xS : List Value) (vA : Value) (xA : List Value) (X : World) : Prop where
  hes : ∀ e ∈ es, EntOk R N X e
  hb : Im R 7 X bb (nodeObj cB)
  hB : Own R 6 N X 28 vB xB.length xB
  hL : Own R 1 N X 27 vL p (bs.map ptr)
  hP : Im R 0 X pb (.cells (bs.map ptr).toArray 27)
  hD : Own R 2 N X 28 vD xD.length xD
  hN : Own R 3 N X 29 vN xN.length xN
  hS : Own R 4 N X 9 vS xS.length xS
  hA : Own R 5 N X 30 vA xA.length xA
  old : ∀ b, b < N → R b = 99
  bel : Below N w X

namespace Main
variable {N : Nat} {w : World} {p : Nat} {bs : List Nat} {vL : Value} {pb bb : Nat} {R R' : Nat → Nat} {es : List Ent} {cB vB : Value} {xB : List Value} {vD : Value} {xD : List Value} {vN : Value} {xN : List Value} {vS : Value} {xS : List Value} {vA : Value} {xA : List Value} {X X' : World}

theorem size (M : Main N w p bs vL pb bb R es cB vB xB vD xD vN xN vS xS vA xA X) (hN : N = w.heap.size) : N ≤ X.heap.size := by rw [hN]; exact M.bel.size

theorem step {S : List Nat} (M : Main N w p bs vL pb bb R es cB vB xB vD xD vN xN vS xS vA xA X) (hN : N = w.heap.size) (s : Step R R' S X X') (h : ∀ r ∈ [0, 1, 2, 3, 4, 5, 6, 7, 99], r ∉ S) :
    Main N w p bs vL pb bb R' es cB vB xB vD xD vN xN vS xS vA xA X' :=
  ⟨fun e he => (M.hes e he).step s (h 0 (by simp)), M.hb.step s (h 7 (by simp)), M.hB.step s (h 6 (by simp)), M.hL.step s (h 1 (by simp)), M.hP.step s (h 0 (by simp)), M.hD.step s (h 2 (by simp)), M.hN.step s (h 3 (by simp)),
    M.hS.step s (h 4 (by simp)), M.hA.step s (h 5 (by simp)), s.old (M.size hN) M.old (h 99 (by simp)), M.bel.trans (s.below (M.size hN) M.old (h 99 (by simp)))⟩

theorem addEnt (M : Main N w p bs vL pb bb R es cB vB xB vD xD vN xN vS xS vA xA X) {e : Ent} (he : EntOk R N X e) : Main N w p bs vL pb bb R (es ++ [e]) cB vB xB vD xD vN xN vS xS vA xA X :=
  ⟨fun x hx => by
    rcases List.mem_append.1 hx with hx | hx
    · exact M.hes x hx
    · obtain rfl := List.mem_singleton.1 hx
      exact he, M.hb, M.hB, M.hL, M.hP, M.hD, M.hN, M.hS, M.hA, M.old, M.bel⟩

theorem store (M : Main N w p bs vL pb bb R es cB vB xB vD xD vN xN vS xS vA xA X) (hN : N = w.heap.size) (v : Value) : Main N w p bs vL pb bb R es v vB xB vD xD vN xN vS xS vA xA (X.setCell ⟨bb, 3, none⟩ v) := by
  have s := (Step.refl R [7] X).setCell (p := ⟨bb, 3, none⟩) (by simp [M.hb.1]) v
  refine ⟨fun e he => (M.hes e he).step s (by simp), ⟨M.hb.1, ?_⟩, M.hB.step s (by simp), M.hL.step s (by simp), M.hP.step s (by simp), M.hD.step s (by simp), M.hN.step s (by simp), M.hS.step s (by simp), M.hA.step s (by simp),
    s.old (M.size hN) M.old (by simp), M.bel.trans (s.below (M.size hN) M.old (by simp))⟩
  simp only [World.setCell, Array.getElem?_modify, if_true]
  rw [M.hb.2]
  rfl

variable {x v' : Value} {w1 : World} {o1 : Obj} {c m : Nat}
theorem pushD (M : Main N w p bs vL pb bb R es cB vB xB vD xD vN xN vS xS vA xA X) (hN : N = w.heap.size) (hown' : w1.ownsRow N 28 1 v' m (xD ++ [x])) (hg : (X.alloc o1).grownBy w1 vD.ownBlock)
    (hat : v'.ownBlock = vD.ownBlock ∨ v'.ownBlock = some c) (hc : c = X.heap.size + 1) (hm : m = xD.length + 1) : ∃ R', Main N w p bs vL pb bb R' es cB vB xB v' (xD ++ [x]) vN xN vS xS vA xA w1 := by
  subst hm
  obtain ⟨R', s, hO⟩ := M.hD.appended (S := [2]) (by simp) hown' hg (hc ▸ hat)
  exact ⟨R', fun e he => (M.hes e he).step s (by simp), M.hb.step s (by simp), M.hB.step s (by simp), M.hL.step s (by simp), M.hP.step s (by simp), by simpa using hO, M.hN.step s (by simp), M.hS.step s (by simp), M.hA.step s (by simp),
    s.old (M.size hN) M.old (by simp), M.bel.trans (s.below (M.size hN) M.old (by simp))⟩
theorem pushN (M : Main N w p bs vL pb bb R es cB vB xB vD xD vN xN vS xS vA xA X) (hN : N = w.heap.size) (hown' : w1.ownsRow N 29 1 v' m (xN ++ [x])) (hg : (X.alloc o1).grownBy w1 vN.ownBlock)
    (hat : v'.ownBlock = vN.ownBlock ∨ v'.ownBlock = some c) (hc : c = X.heap.size + 1) (hm : m = xN.length + 1) : ∃ R', Main N w p bs vL pb bb R' es cB vB xB vD xD v' (xN ++ [x]) vS xS vA xA w1 := by
  subst hm
  obtain ⟨R', s, hO⟩ := M.hN.appended (S := [3]) (by simp) hown' hg (hc ▸ hat)
  exact ⟨R', fun e he => (M.hes e he).step s (by simp), M.hb.step s (by simp), M.hB.step s (by simp), M.hL.step s (by simp), M.hP.step s (by simp), M.hD.step s (by simp), by simpa using hO, M.hS.step s (by simp), M.hA.step s (by simp),
    s.old (M.size hN) M.old (by simp), M.bel.trans (s.below (M.size hN) M.old (by simp))⟩
theorem pushS (M : Main N w p bs vL pb bb R es cB vB xB vD xD vN xN vS xS vA xA X) (hN : N = w.heap.size) (hown' : w1.ownsRow N 9 1 v' m (xS ++ [x])) (hg : (X.alloc o1).grownBy w1 vS.ownBlock)
    (hat : v'.ownBlock = vS.ownBlock ∨ v'.ownBlock = some c) (hc : c = X.heap.size + 1) (hm : m = xS.length + 1) : ∃ R', Main N w p bs vL pb bb R' es cB vB xB vD xD vN xN v' (xS ++ [x]) vA xA w1 := by
  subst hm
  obtain ⟨R', s, hO⟩ := M.hS.appended (S := [4]) (by simp) hown' hg (hc ▸ hat)
  exact ⟨R', fun e he => (M.hes e he).step s (by simp), M.hb.step s (by simp), M.hB.step s (by simp), M.hL.step s (by simp), M.hP.step s (by simp), M.hD.step s (by simp), M.hN.step s (by simp), by simpa using hO, M.hA.step s (by simp),
    s.old (M.size hN) M.old (by simp), M.bel.trans (s.below (M.size hN) M.old (by simp))⟩
theorem pushA (M : Main N w p bs vL pb bb R es cB vB xB vD xD vN xN vS xS vA xA X) (hN : N = w.heap.size) (hown' : w1.ownsRow N 30 1 v' m (xA ++ [x])) (hg : (X.alloc o1).grownBy w1 vA.ownBlock)
    (hat : v'.ownBlock = vA.ownBlock ∨ v'.ownBlock = some c) (hc : c = X.heap.size + 1) (hm : m = xA.length + 1) : ∃ R', Main N w p bs vL pb bb R' es cB vB xB vD xD vN xN vS xS v' (xA ++ [x]) w1 := by
  subst hm
  obtain ⟨R', s, hO⟩ := M.hA.appended (S := [5]) (by simp) hown' hg (hc ▸ hat)
  exact ⟨R', fun e he => (M.hes e he).step s (by simp), M.hb.step s (by simp), M.hB.step s (by simp), M.hL.step s (by simp), M.hP.step s (by simp), M.hD.step s (by simp), M.hN.step s (by simp), M.hS.step s (by simp), by simpa using hO,
    s.old (M.size hN) M.old (by simp), M.bel.trans (s.below (M.size hN) M.old (by simp))⟩
theorem pushB (M : Main N w p bs vL pb bb R es cB vB xB vD xD vN xN vS xS vA xA X) (hN : N = w.heap.size) (hown' : w1.ownsRow N 28 1 v' m (xB ++ [x])) (hg : (X.alloc o1).grownBy w1 vB.ownBlock)
    (hat : v'.ownBlock = vB.ownBlock ∨ v'.ownBlock = some c) (hc : c = X.heap.size + 1) (hm : m = xB.length + 1) : ∃ R', Main N w p bs vL pb bb R' es cB v' (xB ++ [x]) vD xD vN xN vS xS vA xA w1 := by
  subst hm
  obtain ⟨R', s, hO⟩ := M.hB.appended (S := [6]) (by simp) hown' hg (hc ▸ hat)
  exact ⟨R', fun e he => (M.hes e he).step s (by simp), M.hb.step s (by simp), by simpa using hO, M.hL.step s (by simp), M.hP.step s (by simp), M.hD.step s (by simp), M.hN.step s (by simp), M.hS.step s (by simp), M.hA.step s (by simp),
    s.old (M.size hN) M.old (by simp), M.bel.trans (s.below (M.size hN) M.old (by simp))⟩
end Main

/-- At a round's head. -/
def MainRel (N : Nat) (w : World) (p : Nat) (bs : List Nat) (vL : Value) (pb bb : Nat) (R : Nat → Nat) (es : List Ent) (vB vD vN vS vA : Value) (X : World) : Prop :=
  Main N w p bs vL pb bb R es vB vB (es.map wdef) vD ((outs es).map wdef) vN ((outs es).map wnode) vS ((outs es).map fun e => .string (wname e)) vA ((outs es).map walias) X

theorem main_start {N p pb : Nat} {w wr w2 : World} {bs : List Nat} {vL : Value} {R : Nat → Nat} (hO : Own R 1 N wr 27 vL p (bs.map ptr)) (hold : ∀ b, b < N → R b = 99) (hb : Below N w wr) (hN : N ≤ wr.heap.size)
    (s : Step R (upd R wr.heap.size 0) [] wr w2) (hP : Im (upd R wr.heap.size 0) 0 w2 pb (.cells (bs.map ptr).toArray 27)) :
    ∃ R', MainRel N w p bs vL pb w2.heap.size R' [] (.slice none 0 0) (.slice none 0 0) (.slice none 0 0) (.slice none 0 0) (.slice none 0 0) (w2.alloc (nodeObj (.slice none 0 0))) := by
  have s2 := s.alloc (nodeObj (.slice none 0 0)) 7
  have s3 := (Step.refl (upd R wr.heap.size 0) [] w2).alloc (nodeObj (.slice none 0 0)) 7
  exact ⟨_, ⟨fun e he => absurd he (by simp), Im.alloc_new _ _ _ _, Own.nil _ _ _ _ _, hO.step s2 (by simp), hP.step s3 (by simp), Own.nil _ _ _ _ _, Own.nil _ _ _ _ _, Own.nil _ _ _ _ _, Own.nil _ _ _ _ _, s2.old hN hold (by simp), hb.trans (s2.below hN hold (by simp))⟩⟩

/-- A round's end. -/
theorem main_out {N : Nat} {w : World} {p : Nat} {bs : List Nat} {vL : Value} {pb bb : Nat} {R : Nat → Nat} {es : List Ent} {e : Ent} {vB vD vN vS vA : Value} {X : World} (ho : isOut e = true)
    (M : Main N w p bs vL pb bb R (es ++ [e]) vB vB (es.map wdef ++ [wdef e]) vD ((outs es).map wdef ++ [wdef e]) vN ((outs es).map wnode ++ [wnode e]) vS (((outs es).map fun e => .string (wname e)) ++ [.string (wname e)]) vA ((outs es).map walias ++ [walias e]) X) :
    MainRel N w p bs vL pb bb R (es ++ [e]) vB vD vN vS vA X := by
  unfold MainRel
  rw [outs_snoc, ho]
  simpa using M
theorem main_no {N : Nat} {w : World} {p : Nat} {bs : List Nat} {vL : Value} {pb bb : Nat} {R : Nat → Nat} {es : List Ent} {e : Ent} {vB vD vN vS vA : Value} {X : World} (ho : isOut e = false)
    (M : Main N w p bs vL pb bb R (es ++ [e]) vB vB (es.map wdef ++ [wdef e]) vD ((outs es).map wdef) vN ((outs es).map wnode) vS ((outs es).map fun e => .string (wname e)) vA ((outs es).map walias) X) :
    MainRel N w p bs vL pb bb R (es ++ [e]) vB vD vN vS vA X := by
  unfold MainRel
  rw [outs_snoc, ho]
  simpa using M
end Go.Proofs.Ybulkbegy
