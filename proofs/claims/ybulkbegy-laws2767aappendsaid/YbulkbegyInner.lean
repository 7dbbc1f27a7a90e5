/-
  'LawS2767AAppend' (function 3): what the inner loop keeps.
-/
import Derived.Test.YbulkbegyL3
namespace Go.Proofs.Ybulkbegy
open Go.RowKit
set_option linter.unusedVariables false
set_option linter.unusedSimpArgs false

/-- A Definition's block whose value is not yet laid. -/
def def0Obj (k : Nat) : Obj := .cells #[.string (nameOf k), .int .i64 0, .int .i64 0, .int .i64 0, .int .i64 0, .int .i64 0, .int .i64 0, .nilIface, .pointer none] 49

structure Inner (N : Nat) (R : Nat → Nat) (wr : World) (NK Dd Nd : Nat) (R1 : Nat → Nat) (is : List Inn) (cv dv : Value) (xs : List Value) (X : World) : Prop where
  s : Step R R1 [8, 9, 10] wr X
  hd : Im R1 10 X Dd (def0Obj NK)
  hn : Im R1 8 X Nd (nodeObj cv)
  ho : Own R1 9 N X 28 dv xs.length xs
  hi : ∀ i ∈ is, InnOk R1 X i

def InnRel (N : Nat) (R : Nat → Nat) (wr : World) (NK Dd Nd : Nat) (R1 : Nat → Nat) (is : List Inn) (dv : Value) (X : World) : Prop :=
  Inner N R wr NK Dd Nd R1 is dv dv (is.map fun i => ptr i.db) X

namespace Inner
variable {N : Nat} {R : Nat → Nat} {wr : World} {NK Dd Nd : Nat} {R1 R2 : Nat → Nat} {is : List Inn} {cv dv : Value} {xs : List Value} {X X' : World}

theorem start (N : Nat) (R : Nat → Nat) (wr : World) (NK : Nat) (oA : Obj) : InnRel N R wr NK (wr.heap.size + 1) (wr.heap.size + 1 + 1) (upd (upd (upd R wr.heap.size 0) (wr.heap.size + 1) 10) (wr.heap.size + 1 + 1) 8) [] (.slice none 0 0)
    (((wr.alloc oA).alloc (def0Obj NK)).alloc (nodeObj (.slice none 0 0))) := by
  have s0 := (Step.refl R [8, 9, 10] wr).alloc oA 0
  have s1 := s0.alloc (def0Obj NK) 10
  have s2 := s1.alloc (nodeObj (.slice none 0 0)) 8
  simp only [World.size_alloc] at s2
  have h1 := Im.alloc_new (wr.alloc oA) (upd R wr.heap.size 0) 10 (def0Obj NK)
  have h2 := Im.alloc_new ((wr.alloc oA).alloc (def0Obj NK)) (upd (upd R wr.heap.size 0) (wr.heap.size + 1) 10) 8 (nodeObj (.slice none 0 0))
  have s3 := (Step.refl (upd (upd R wr.heap.size 0) (wr.heap.size + 1) 10) [] ((wr.alloc oA).alloc (def0Obj NK))).alloc (nodeObj (.slice none 0 0)) 8
  simp only [World.size_alloc] at h1 h2 s3
  exact ⟨s2, h1.step s3 (by simp), h2, Own.nil _ _ _ _ _, fun i hi => absurd hi (by simp)⟩

theorem step (M : Inner N R wr NK Dd Nd R1 is cv dv xs X) (s : Step R1 R2 [] X X') : Inner N R wr NK Dd Nd R2 is cv dv xs X' :=
  ⟨M.s.trans (s.mono (by simp)), M.hd.step s (by simp), M.hn.step s (by simp), M.ho.step s (by simp), fun i hi => (M.hi i hi).step s (by simp)⟩

theorem addInn (M : Inner N R wr NK Dd Nd R1 is cv dv xs X) {i : Inn} (h : InnOk R1 X i) : Inner N R wr NK Dd Nd R1 (is ++ [i]) cv dv xs X :=
  ⟨M.s, M.hd, M.hn, M.ho, fun x hx => by
    rcases List.mem_append.1 hx with hx | hx
    · exact M.hi x hx
    · obtain rfl := List.mem_singleton.1 hx
      exact h⟩

theorem push {x v' : Value} {w1 : World} {o1 : Obj} {c m : Nat} (M : Inner N R wr NK Dd Nd R1 is cv dv xs X) (hown' : w1.ownsRow N 28 1 v' m (xs ++ [x])) (hg : (X.alloc o1).grownBy w1 dv.ownBlock)
    (hat : v'.ownBlock = dv.ownBlock ∨ v'.ownBlock = some c) (hc : c = X.heap.size + 1) (hm : m = xs.length + 1) : ∃ R', Inner N R wr NK Dd Nd R' is cv v' (xs ++ [x]) w1 := by
  subst hm
  obtain ⟨R', s, hO⟩ := M.ho.appended (S := [9]) (by simp) hown' hg (hc ▸ hat)
  exact ⟨R', M.s.trans (s.mono (by simp)), M.hd.step s (by simp), M.hn.step s (by simp), by simpa using hO, fun i hi => (M.hi i hi).step s (by simp)⟩

theorem store (M : Inner N R wr NK Dd Nd R1 is cv dv xs X) (v : Value) : Inner N R wr NK Dd Nd R1 is v dv xs (X.setCell ⟨Nd, 3, none⟩ v) := by
  have s := (Step.refl R1 [8] X).setCell (p := ⟨Nd, 3, none⟩) (by simp [M.hn.1]) v
  refine ⟨M.s.trans (s.mono (by simp)), M.hd.step s (by simp), ⟨M.hn.1, ?_⟩, M.ho.step s (by simp), fun i hi => (M.hi i hi).step s (by simp)⟩
  simp only [World.setCell, Array.getElem?_modify, if_true]
  rw [M.hn.2]
  rfl
end Inner

theorem inn_done {N : Nat} {R : Nat → Nat} {wr : World} {NK Dd Nd : Nat} {R1 : Nat → Nat} {is : List Inn} {i : Inn} {dv : Value} {X : World}
    (M : Inner N R wr NK Dd Nd R1 (is ++ [i]) dv dv ((is.map fun i => ptr i.db) ++ [ptr i.db]) X) : InnRel N R wr NK Dd Nd R1 (is ++ [i]) dv X := by
  unfold InnRel
  simpa using M

/-- The entry, its node laid. -/
theorem ent0 {N : Nat} {R : Nat → Nat} {wr : World} {NK Dd Nd : Nat} {R1 : Nat → Nat} {is : List Inn} {dv : Value} {X : World} (M : InnRel N R wr NK Dd Nd R1 is dv X) (hnk : NK < 7) (hlen : is.length ≤ 256) :
    Step R (retag R1 [8, 9, 10] 0) [8, 9, 10] wr (X.setCell ⟨Dd, 7, none⟩ (.iface 29 (.pointer (some ⟨Nd, 0, none⟩)))) ∧
    EntOk (retag R1 [8, 9, 10] 0) N (X.setCell ⟨Dd, 7, none⟩ (.iface 29 (.pointer (some ⟨Nd, 0, none⟩)))) ⟨NK, 0, Dd, Nd, dv, is⟩ := by
  have s := (Step.refl R1 [10] X).setCell (p := ⟨Dd, 7, none⟩) (by simp [M.hd.1]) (.iface 29 (.pointer (some ⟨Nd, 0, none⟩)))
  have s2 := (Step.refl R1 [8, 9, 10] (X.setCell ⟨Dd, 7, none⟩ (.iface 29 (.pointer (some ⟨Nd, 0, none⟩))))).tagged 0
  have hd : Im R1 10 (X.setCell ⟨Dd, 7, none⟩ (.iface 29 (.pointer (some ⟨Nd, 0, none⟩)))) Dd (defObj NK 29 Nd) := by
    refine ⟨M.hd.1, ?_⟩
    simp only [World.setCell, Array.getElem?_modify, if_true]
    rw [M.hd.2]
    rfl
  refine ⟨(M.s.trans (s.mono (by simp))).trans s2, ⟨hnk, by show 0 < 5; decide, hd.tag (by simp), fun _ => ⟨(M.hn.step s (by simp)).tag (by simp), ?_, hlen, fun i hi => ((M.hi i hi).step s (by simp)).step s2 (by simp)⟩,
    fun h => absurd h (by show ¬ (0 = 1); decide), fun h => absurd h (by show ¬ (0 = 2); decide)⟩⟩
  have ho := (M.ho.step s (by simp)).tag (S := [8, 9, 10]) (q' := 0) (by simp)
  simpa using ho

/-- An inner definition, kind by kind. -/
theorem inn0 (R : Nat → Nat) (X : World) (oA : Obj) (nk tx D V : Nat) (hnk : nk < 7) (hD : D = X.heap.size + 1) (hV : V = X.heap.size + 1 + 1) :
    InnOk (fresh R X) (allocs X [oA, defObj nk 30 V, scalObj 0 (quoted (textOf tx))]) ⟨nk, 0, tx, D, V⟩ :=
  ⟨hnk, by show 0 < 4; decide, Im.allocs R X _ 1 _ _ rfl hD, fun _ => Im.allocs R X _ 2 _ _ rfl hV, fun h => absurd h (by show ¬ (0 = 1); decide)⟩
theorem inn1 (R : Nat → Nat) (X : World) (oA : Obj) (nk tx D V : Nat) (hnk : nk < 7) (hD : D = X.heap.size + 1) (hV : V = X.heap.size + 1 + 1) :
    InnOk (fresh R X) (allocs X [oA, defObj nk 30 V, scalObj 4 (textOf tx)]) ⟨nk, 1, tx, D, V⟩ :=
  ⟨hnk, by show 1 < 4; decide, Im.allocs R X _ 1 _ _ rfl hD, fun h => absurd h (by show ¬ (1 = 0); decide), fun _ => Im.allocs R X _ 2 _ _ rfl hV⟩
theorem inn2 (R : Nat → Nat) (X : World) (oA oN : Obj) (nk tx D V : Nat) (hnk : nk < 7) (hD : D = X.heap.size + 1) :
    InnOk (fresh R X) (allocs X [oA, defObj nk 29 V, oN]) ⟨nk, 2, tx, D, V⟩ :=
  ⟨hnk, by show 2 < 4; decide, Im.allocs R X _ 1 _ _ rfl hD, fun h => absurd h (by show ¬ (2 = 0); decide), fun h => absurd h (by show ¬ (2 = 1); decide)⟩
theorem inn3 (R : Nat → Nat) (X : World) (oA oS oR oN : Obj) (nk tx D V : Nat) (hnk : nk < 7) (hD : D = X.heap.size + 1) :
    InnOk (fresh R X) (allocs X [oA, defObj nk 56 V, oS, oR, oN]) ⟨nk, 3, tx, D, V⟩ :=
  ⟨hnk, by show 3 < 4; decide, Im.allocs R X _ 1 _ _ rfl hD, fun h => absurd h (by show ¬ (3 = 0); decide), fun h => absurd h (by show ¬ (3 = 1); decide)⟩

/-! ### What the law gathers beside -/
theorem gather_found {is : List Inn} {j : Inn} (h : hit is = some j) (i : Inn) : hit (is ++ [i]) = some j := by rw [hit_snoc, h]
theorem gather_not {is : List Inn} (h : hit is = none) {i : Inn} (ha : isAlias i.nk = false) : hit (is ++ [i]) = none := by rw [hit_snoc, h]; simp [ha]
theorem gather_yes {is : List Inn} (h : hit is = none) {i : Inn} (ha : isAlias i.nk = true) : hit (is ++ [i]) = some i := by rw [hit_snoc, h]; simp [ha]
end Go.Proofs.Ybulkbegy
