/-
  Memory that the call itself makes, by ROLES: 'R b' is what block b is for (a number). A step may write only to blocks whose role is on its list; what is said of a block of another role stands.
-/
import Derived.Below
import Derived.Maps.AppendAt
import Derived.Deep.Draws
namespace Go.Proofs.YbulkbeiaDoor
open Go.RowKit

structure Step (R R' : Nat → Nat) (S : List Nat) (X X' : World) : Prop where
  os : X'.os = X.os
  tape : X'.tape = X.tape
  output : X'.output = X.output
  size : X.heap.size ≤ X'.heap.size
  role : ∀ b, b < X.heap.size → R b ∉ S → R' b = R b
  block : ∀ b, b < X.heap.size → R b ∉ S → X'.heap[b]? = X.heap[b]?

namespace Step
variable {R R' R'' : Nat → Nat} {S : List Nat} {X X' X'' : World}

theorem refl (R : Nat → Nat) (S : List Nat) (X : World) : Step R R S X X := ⟨rfl, rfl, rfl, Nat.le_refl _, fun _ _ _ => rfl, fun _ _ _ => rfl⟩

theorem trans (h : Step R R' S X X') (k : Step R' R'' S X' X'') : Step R R'' S X X'' :=
  ⟨k.os.trans h.os, k.tape.trans h.tape, k.output.trans h.output, Nat.le_trans h.size k.size,
    fun b hb hS => by have e := h.role b hb hS; rw [k.role b (Nat.lt_of_lt_of_le hb h.size) (by rw [e]; exact hS), e],
    fun b hb hS => by have e := h.role b hb hS; rw [k.block b (Nat.lt_of_lt_of_le hb h.size) (by rw [e]; exact hS), h.block b hb hS]⟩

theorem mono {S' : List Nat} (h : Step R R' S X X') (hS : ∀ r, r ∈ S → r ∈ S') : Step R R' S' X X' :=
  ⟨h.os, h.tape, h.output, h.size, fun b hb n => h.role b hb (fun e => n (hS _ e)), fun b hb n => h.block b hb (fun e => n (hS _ e))⟩

theorem drewN (h : Step R R' S X X') (n : Nat) : Step R R' S X (X'.drewN n) := ⟨h.os, h.tape, h.output, h.size, h.role, h.block⟩
theorem drew (h : Step R R' S X X') : Step R R' S X X'.drew := ⟨h.os, h.tape, h.output, h.size, h.role, h.block⟩
end Step

/-- Block b gets the role q. -/
def upd (R : Nat → Nat) (b q : Nat) : Nat → Nat := fun c => if c = b then q else R c
theorem upd_same (R : Nat → Nat) (b q : Nat) : upd R b q b = q := if_pos rfl
theorem upd_other (R : Nat → Nat) {b c : Nat} (q : Nat) (h : c ≠ b) : upd R b q c = R c := if_neg h
/-- All blocks whose role is on the list get the role q. -/
def retag (R : Nat → Nat) (S : List Nat) (q : Nat) : Nat → Nat := fun c => if R c ∈ S then q else R c

namespace Step
variable {R R' : Nat → Nat} {S : List Nat} {X X' : World}
theorem alloc (h : Step R R' S X X') (o : Obj) (q : Nat) : Step R (upd R' X'.heap.size q) S X (X'.alloc o) :=
  ⟨h.os, h.tape, h.output, Nat.le_trans h.size (by simp),
    fun b hb n => by rw [upd_other _ _ (Nat.ne_of_lt (Nat.lt_of_lt_of_le hb h.size)), h.role b hb n],
    fun b hb n => by rw [Below.heap_alloc _ _ _ (Nat.lt_of_lt_of_le hb h.size), h.block b hb n]⟩

theorem setCell (h : Step R R' S X X') {p : Addr} (hp : R' p.block ∈ S) (v : Value) : Step R R' S X (X'.setCell p v) := by
  refine ⟨h.os, h.tape, h.output, Nat.le_trans h.size (by simp [World.setCell]), h.role, fun b hb n => ?_⟩
  have e := h.role b hb n
  rw [Below.heap_setCell _ _ _ _ (fun hbp => n (by rw [← e, hbp]; exact hp)), h.block b hb n]

/-- A store into a block that is new since the step's beginning. -/
theorem setCellNew (h : Step R R' S X X') {p : Addr} (hp : X.heap.size ≤ p.block) (v : Value) : Step R R' S X (X'.setCell p v) := by
  refine ⟨h.os, h.tape, h.output, Nat.le_trans h.size (by simp [World.setCell]), h.role, fun b hb n => ?_⟩
  rw [Below.heap_setCell _ _ _ _ (by omega), h.block b hb n]

theorem tagged (h : Step R R' S X X') (q : Nat) : Step R (retag R' S q) S X X' :=
  ⟨h.os, h.tape, h.output, h.size, fun b hb n => by have e := h.role b hb n; unfold retag; rw [if_neg (by rw [e]; exact n), e], h.block⟩

theorem below {N : Nat} (h : Step R R' S X X') (hN : N ≤ X.heap.size) (old : ∀ b, b < N → R b = 99) (h99 : 99 ∉ S) : Below N X X' :=
  ⟨h.os, h.tape, h.output, h.size, fun b hb => h.block b (by omega) (by rw [old b hb]; exact h99)⟩
theorem old {N : Nat} (h : Step R R' S X X') (hN : N ≤ X.heap.size) (old : ∀ b, b < N → R b = 99) (h99 : 99 ∉ S) : ∀ b, b < N → R' b = 99 :=
  fun b hb => by rw [h.role b (by omega) (by rw [old b hb]; exact h99), old b hb]
end Step

/-- Block b, of role q, holds o. -/
def Im (R : Nat → Nat) (q : Nat) (X : World) (b : Nat) (o : Obj) : Prop := R b = q ∧ X.heap[b]? = some o

namespace Im
variable {R R' : Nat → Nat} {S : List Nat} {X X' : World} {q b : Nat} {o : Obj}
theorem lt (h : Im R q X b o) : b < X.heap.size := (Array.getElem?_eq_some_iff.1 h.2).1
theorem step (h : Im R q X b o) (s : Step R R' S X X') (hq : q ∉ S) : Im R' q X' b o :=
  ⟨by rw [s.role b h.lt (by rw [h.1]; exact hq), h.1], by rw [s.block b h.lt (by rw [h.1]; exact hq), h.2]⟩
theorem cell {cs : Array Value} {t : TypeId} (h : Im R q X b (.cells cs t)) (i : Nat) : X.cell? ⟨b, i, none⟩ = cs[i]? := by
  simp [World.cell?, h.2]
theorem frozen {cs : Array Value} {t : TypeId} (h : Im R q X b (.cells cs t)) (i : Nat) : X.frozen? ⟨b, i, none⟩ = false := by
  simp [World.frozen?, h.2]
theorem tag {q' : Nat} (h : Im R q X b o) (hq : q ∈ S) : Im (retag R S q') q' X b o := ⟨by unfold retag; rw [h.1, if_pos hq], h.2⟩
theorem alloc_new (X : World) (R : Nat → Nat) (q : Nat) (o : Obj) : Im (upd R X.heap.size q) q (X.alloc o) X.heap.size o :=
  ⟨upd_same _ _ _, by show (X.heap.push o)[X.heap.size]? = _; simp⟩
end Im

/-- The slice value v, of role q, owns the cells xs. -/
def Own (R : Nat → Nat) (q N : Nat) (X : World) (e : TypeId) (v : Value) (n : Nat) (xs : List Value) : Prop := X.ownsRow N e 1 v n xs ∧ ∀ b, v.ownBlock = some b → R b = q

namespace Own
variable {R R' : Nat → Nat} {S : List Nat} {X X' : World} {q N n : Nat} {e : TypeId} {v : Value} {xs : List Value}
theorem nil (R : Nat → Nat) (q N : Nat) (X : World) (e : TypeId) : Own R q N X e (.slice none 0 0) 0 [] := ⟨World.ownsRow_nil _ _ _ _, fun b h => by simp [Value.ownBlock] at h⟩
theorem step (h : Own R q N X e v n xs) (s : Step R R' S X X') (hq : q ∉ S) : Own R' q N X' e v n xs := by
  obtain ⟨⟨h1, h2⟩, h3⟩ := h
  refine ⟨⟨h1, ?_⟩, fun b hb => ?_⟩
  · rcases h2 with h2 | ⟨g, cap, cur, rfl, hb, hg, rest⟩
    · exact .inl h2
    · refine .inr ⟨g, cap, cur, rfl, hb, ?_, rest⟩
      have hr := h3 g (by simp [Value.ownBlock])
      rw [s.block g (Array.getElem?_eq_some_iff.1 hg).1 (by rw [hr]; exact hq)]
      exact hg
  · have hr := h3 b hb
    rcases h2 with ⟨rfl, _⟩ | ⟨g, cap, cur, rfl, _, hg, _⟩
    · simp [Value.ownBlock] at hb
    · simp [Value.ownBlock] at hb
      subst hb
      rw [s.role _ (Array.getElem?_eq_some_iff.1 hg).1 (by rw [hr]; exact hq), hr]
theorem tag {q' : Nat} (h : Own R q N X e v n xs) (hq : q ∈ S) : Own (retag R S q') q' N X e v n xs := ⟨h.1, fun b hb => by unfold retag; rw [h.2 b hb, if_pos hq]⟩
theorem length (h : Own R q N X e v n xs) : xs.length = n := by have := h.1.1; omega

/-- The cells of an owned slice that is not empty. -/
theorem some_at (h : Own R q N X e v n xs) (hn : 0 < n) : ∃ g cap, v = .slice (some ⟨g, 0, none⟩) n cap ∧ ∀ i, i < n → X.cell? ⟨g, i, none⟩ = xs[i]? := by
  rcases h.1.2 with ⟨_, rfl⟩ | ⟨g, cap, cur, rfl, _, hg, hc, _, hcs, ht⟩
  · exact absurd hn (Nat.lt_irrefl _)
  · refine ⟨g, cap, rfl, fun i hi => ?_⟩
    have := World.ownsRow.cellAt (g := g) (cap := cap) h.1 i (by omega)
    exact this
theorem slice_len (h : Own R q N X e v n xs) : ∃ a cap, v = .slice a n cap := by
  rcases h.1.2 with ⟨rfl, rfl⟩ | ⟨g, cap, cur, rfl, _⟩
  · exact ⟨none, 0, rfl⟩
  · exact ⟨_, cap, rfl⟩

/-- One append onto it, by the law 'wpList_append_own_at'. -/
theorem appended {x v' : Value} {w1 : World} {o1 : Obj} (h : Own R q N X e v n xs) (hq : q ∈ S) (hown' : w1.ownsRow N e 1 v' (n + 1) (xs ++ [x])) (hg : (X.alloc o1).grownBy w1 v.ownBlock)
    (hat : v'.ownBlock = v.ownBlock ∨ v'.ownBlock = some (X.heap.size + 1)) : ∃ R', Step R R' S X w1 ∧ Own R' q N w1 e v' (n + 1) (xs ++ [x]) := by
  refine ⟨upd R (X.heap.size + 1) q, ⟨hg.os, hg.tape, hg.output, Nat.le_trans (by simp) hg.size, fun b hb _ => upd_other _ _ (by omega), fun b hb n => ?_⟩, hown', fun b hb => ?_⟩
  · rw [hg.block b (by simp; omega) (fun hv => n (by rw [h.2 b hv.symm]; exact hq)), Below.heap_alloc _ _ _ hb]
  · rcases hat with e1 | e1
    · rw [e1] at hb
      by_cases e2 : b = X.heap.size + 1
      · rw [e2, upd_same]
      · rw [upd_other _ _ e2, h.2 b hb]
    · rw [e1] at hb
      obtain rfl := Option.some.inj hb
      exact upd_same _ _ _
end Own
end Go.Proofs.YbulkbeiaDoor
