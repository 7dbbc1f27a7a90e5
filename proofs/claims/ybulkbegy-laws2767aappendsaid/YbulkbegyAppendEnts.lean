/-
  'LawS2767AAppend' (function 3): an entry laid, kind by kind; an inner definition laid.
-/
import Derived.Test.YbulkbegyAppendParts
namespace Go.Proofs.Ybulkbegy
open Go.RowKit
set_option linter.unusedVariables false
set_option linter.unusedSimpArgs false

/-- Several new blocks. -/
def allocs (X : World) : List Obj → World
  | [] => X
  | o :: os => allocs (X.alloc o) os
/-- All that is new is never written again. -/
def fresh (R : Nat → Nat) (X : World) : Nat → Nat := fun b => if X.heap.size ≤ b then 0 else R b

theorem allocs_size : ∀ (os : List Obj) (X : World), (allocs X os).heap.size = X.heap.size + os.length
  | [], X => rfl
  | o :: os, X => by rw [allocs, allocs_size os]; simp; omega
theorem allocs_old : ∀ (os : List Obj) (X : World) (b : Nat), b < X.heap.size → (allocs X os).heap[b]? = X.heap[b]?
  | [], X, b, _ => rfl
  | o :: os, X, b, h => by rw [allocs, allocs_old os _ b (by simp; omega), Below.heap_alloc _ _ _ h]
theorem allocs_new : ∀ (os : List Obj) (X : World) (i : Nat) (o : Obj), os[i]? = some o → (allocs X os).heap[X.heap.size + i]? = some o
  | [], X, i, o, h => by simp at h
  | a :: os, X, 0, o, h => by
    simp at h
    subst h
    rw [allocs, allocs_old os _ _ (by simp)]
    exact (Im.alloc_new X (fun _ => 0) 0 a).2
  | a :: os, X, i + 1, o, h => by
    have := allocs_new os (X.alloc a) i o (by simpa using h)
    rw [allocs]
    rw [show X.heap.size + (i + 1) = (X.alloc a).heap.size + i by simp; omega]
    exact this
theorem allocs_os : ∀ (os : List Obj) (X : World), (allocs X os).os = X.os ∧ (allocs X os).tape = X.tape ∧ (allocs X os).output = X.output
  | [], X => ⟨rfl, rfl, rfl⟩
  | o :: os, X => by rw [allocs]; exact allocs_os os (X.alloc o)

theorem Step.allocs (R : Nat → Nat) (X : World) (os : List Obj) : Step R (fresh R X) [] X (allocs X os) :=
  ⟨(allocs_os os X).1, (allocs_os os X).2.1, (allocs_os os X).2.2, by rw [allocs_size]; omega, fun b hb _ => if_neg (by omega), fun b hb _ => allocs_old os X b hb⟩
theorem Im.allocs (R : Nat → Nat) (X : World) (os : List Obj) (i b : Nat) (o : Obj) (h : os[i]? = some o) (hb : b = X.heap.size + i) : Im (fresh R X) 0 (allocs X os) b o := by
  subst hb
  exact ⟨if_pos (by omega), allocs_new os X i o h⟩

def noSlice : Value := .slice none 0 0

/-- An empty array. -/
theorem ent1 (R : Nat → Nat) (N : Nat) (X : World) (oA : Obj) (nk D V : Nat) (hnk : nk < 7) (hD : D = X.heap.size + 1) (hV : V = X.heap.size + 1 + 1) :
    EntOk (fresh R X) N (allocs X [oA, defObj nk 56 V, arrObj (.slice none 0 0)]) ⟨nk, 1, D, V, noSlice, []⟩ :=
  ⟨hnk, by show 1 < 5; decide, Im.allocs R X _ 1 _ _ rfl hD, fun h => absurd h (by show ¬ (1 = 0); decide), fun _ => Im.allocs R X _ 2 _ _ rfl hV, fun h => absurd h (by show ¬ (1 = 2); decide)⟩
/-- A full array. -/
theorem ent2 (R : Nat → Nat) (N : Nat) (X : World) (oA oS oR : Obj) (a : Option Addr) (c nk D V : Nat) (hnk : nk < 7) (hD : D = X.heap.size + 1) (hV : V = X.heap.size + 4) :
    EntOk (fresh R X) N (allocs X [oA, defObj nk 56 V, oS, oR, arrObj (.slice a 1 c)]) ⟨nk, 2, D, V, noSlice, []⟩ :=
  ⟨hnk, by show 2 < 5; decide, Im.allocs R X _ 1 _ _ rfl hD, fun h => absurd h (by show ¬ (2 = 0); decide), fun h => absurd h (by show ¬ (2 = 1); decide), fun _ => ⟨a, c, Im.allocs R X _ 4 _ _ rfl hV⟩⟩
/-- A scalar. -/
theorem ent3 (R : Nat → Nat) (N : Nat) (X : World) (oA oS : Obj) (nk D V : Nat) (hnk : nk < 7) (hD : D = X.heap.size + 1) :
    EntOk (fresh R X) N (allocs X [oA, defObj nk 30 V, oS]) ⟨nk, 3, D, V, noSlice, []⟩ :=
  ⟨hnk, by show 3 < 5; decide, Im.allocs R X _ 1 _ _ rfl hD, fun h => absurd h (by show ¬ (3 = 0); decide), fun h => absurd h (by show ¬ (3 = 1); decide), fun h => absurd h (by show ¬ (3 = 2); decide)⟩
/-- A cast. -/
theorem ent4 (R : Nat → Nat) (N : Nat) (X : World) (oA oS oC : Obj) (nk D V : Nat) (hnk : nk < 7) (hD : D = X.heap.size + 1) :
    EntOk (fresh R X) N (allocs X [oA, defObj nk 60 V, oS, oC]) ⟨nk, 4, D, V, noSlice, []⟩ :=
  ⟨hnk, by show 4 < 5; decide, Im.allocs R X _ 1 _ _ rfl hD, fun h => absurd h (by show ¬ (4 = 0); decide), fun h => absurd h (by show ¬ (4 = 1); decide), fun h => absurd h (by show ¬ (4 = 2); decide)⟩
end Go.Proofs.Ybulkbegy
