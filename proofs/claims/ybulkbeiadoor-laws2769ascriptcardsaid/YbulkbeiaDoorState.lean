/-
  What the set of health reasons holds, in memory, against the law's own model: the names that are held.
-/
import Derived.Test.YbulkbeiaDoorKeys
import Derived.Test.YbulkbeiaDoorHeap
namespace Go.Proofs.YbulkbeiaDoor
open Go.RowKit Go.Maps

/-- Health's block; ComponentHealth's. -/
def hObj (lk : Int) (rm cm : Value) (n : Int) : Obj := .cells #[.int .i32 lk, .int .u32 0, rm, .int .u8 0, cm, .int .i32 n, .chan none] 38
def cObj (hb : Nat) (comp : ByteArray) : Obj := .cells #[.pointer (some ⟨hb, 0, none⟩), .string comp, .bool false] 41

/-- A map of the call's own, by its role. -/
def OwnM (R : Nat → Nat) (q : Nat) (X : World) (k : TypeId) (Rd : Value → Option (DataW Unit × List MemPlace)) (b n : Nat) (D : DataW Unit) : Prop := R b = q ∧ X.ownsMap Ybad.prog k Rd b n D

namespace OwnM
variable {R R' : Nat → Nat} {S : List Nat} {X X' : World} {q n b : Nat} {k : TypeId} {Rd : Value → Option (DataW Unit × List MemPlace)} {D : DataW Unit}
theorem step (h : OwnM R q X k Rd b n D) (s : Step R R' S X X') (hq : q ∉ S) : OwnM R' q X' k Rd b n D := by
  have hlt := h.2.lt
  obtain ⟨hr, es, clock, hb, rest⟩ := h
  exact ⟨by rw [s.role b hlt (by rw [hr]; exact hq), hr], es, clock, by rw [s.block b hlt (by rw [hr]; exact hq)]; exact hb, rest⟩
theorem mono (h : OwnM R q X k Rd b n D) {n' : Nat} (hn : n ≤ n') : OwnM R q X k Rd b n' D := ⟨h.1, h.2.mono hn⟩
end OwnM

theorem Step.turned {R : Nat → Nat} {S : List Nat} {X X' : World} {b : Nat} (h : X.mapTurned X' b) (hb : R b ∈ S) : Step R R S X X' := by
  have g := h.grown
  exact ⟨g.os, g.tape, g.output, g.size, fun _ _ _ => rfl, fun c hc hn => g.block c hc (fun e => hn (by rw [Option.some.inj e]; exact hb))⟩

/-- The reasons' map reads as the model says; the counts' map too. -/
def DRel (comp : ByteArray) (ms : List ByteArray) (D : DataW Unit) : Prop :=
  (∀ s l, keyOf Ybad.prog 50 (.agg #[.string comp, .string s]) = some l → (Maps.has D l = true ↔ s ∈ ms)) ∧ Maps.size D = ms.length
def ERel (comp : ByteArray) (ms : List ByteArray) (E : DataW Unit) : Prop :=
  ∀ l, keyOf Ybad.prog 9 (.string comp) = some l → (Maps.has E l = true ↔ 0 < ms.length) ∧ E.atKey l (.lit (.int .i64 0)) = .lit (.int .i64 (ms.length : Int))

def St (R : Nat → Nat) (hb : Nat) (comp : ByteArray) (lk : Int) (k : Nat) (ms : List ByteArray) (X : World) : Prop :=
  (ms = [] ∧ Im R 1 X hb (hObj lk (.map none) (.map none) 0)) ∨
  ∃ rb nb D E, Im R 1 X hb (hObj lk (.map (some rb)) (.map (some nb)) (ms.length : Int)) ∧ OwnM R 3 X 50 unitElem rb k D ∧ OwnM R 4 X 9 (plainElem Ybad.prog 3) nb k E ∧ DRel comp ms D ∧ ERel comp ms E

theorem St.step {R R' : Nat → Nat} {S : List Nat} {X X' : World} {hb k : Nat} {comp : ByteArray} {lk : Int} {ms : List ByteArray} (h : St R hb comp lk k ms X) (s : Step R R' S X X') (h1 : 1 ∉ S) (h3 : 3 ∉ S) (h4 : 4 ∉ S) : St R' hb comp lk k ms X' := by
  rcases h with ⟨e, hi⟩ | ⟨rb, nb, D, E, hi, hD, hE, d, e⟩
  · exact .inl ⟨e, hi.step s h1⟩
  · exact .inr ⟨rb, nb, D, E, hi.step s h1, hD.step s h3, hE.step s h4, d, e⟩
theorem St.mono {R : Nat → Nat} {X : World} {hb k k' : Nat} {comp : ByteArray} {lk : Int} {ms : List ByteArray} (h : St R hb comp lk k ms X) (hk : k ≤ k') : St R hb comp lk k' ms X := by
  rcases h with h | ⟨rb, nb, D, E, hi, hD, hE, d, e⟩
  · exact .inl h
  · exact .inr ⟨rb, nb, D, E, hi, hD.mono hk, hE.mono hk, d, e⟩

/-- A cell of Health's block, written. -/
theorem Im.setCell {R : Nat → Nat} {q b i : Nat} {X : World} {cs : Array Value} {t : TypeId} (h : Im R q X b (.cells cs t)) (v : Value) : Im R q (X.setCell ⟨b, i, none⟩ v) b (.cells (cs.setIfInBounds i v) t) := by
  refine ⟨h.1, ?_⟩
  simp only [World.setCell, Array.getElem?_modify, if_true]
  rw [h.2]
  rfl

/-! ### The plain law -/
theorem key_ne {comp s s' : ByteArray} {l l' : Lit} (h : keyOf Ybad.prog 50 (.agg #[.string comp, .string s]) = some l) (h' : keyOf Ybad.prog 50 (.agg #[.string comp, .string s']) = some l') (hne : s' ≠ s) : l' ≠ l := by
  rintro rfl
  have := law50.inj h' h
  simp at this
  exact hne this

theorem DRel.empty (comp : ByteArray) : DRel comp [] (.map []) := ⟨fun s l _ => by simp [Maps.has], rfl⟩
theorem ERel.empty (comp : ByteArray) : ERel comp [] (.map []) := fun l _ => ⟨by simp [Maps.has], rfl⟩

theorem DRel.put {comp s : ByteArray} {ms : List ByteArray} {D : DataW Unit} {l : Lit} (h : DRel comp ms D) (ht : Tidy D) (hl : keyOf Ybad.prog 50 (.agg #[.string comp, .string s]) = some l) (hs : s ∉ ms) : DRel comp (ms ++ [s]) (D.put l (.agg [])) := by
  have h0 : Maps.has D l = false := by
    cases hh : Maps.has D l with
    | false => rfl
    | true => exact absurd ((h.1 s l hl).1 hh) hs
  refine ⟨fun s' l' hl' => ?_, ?_⟩
  · by_cases e : s' = s
    · subst e
      rw [hl] at hl'
      obtain rfl := Option.some.inj hl'
      simp [Maps.has_put_same ht.isMap (law50.key hl)]
    · rw [Maps.has_put_other (key_ne hl hl' e), h.1 s' l' hl']
      simp [e]
  · rw [Maps.size_put ht, h0, h.2]
    simp

theorem DRel.del {comp s : ByteArray} {ms ms' : List ByteArray} {D : DataW Unit} {l : Lit} (h : DRel comp ms D) (ht : Tidy D) (hl : keyOf Ybad.prog 50 (.agg #[.string comp, .string s]) = some l) (hs : s ∈ ms) (hm : ∀ x, x ∈ ms' ↔ x ∈ ms ∧ x ≠ s) (hn : ms'.length + 1 = ms.length) : DRel comp ms' (D.del l) := by
  have h1 := (h.1 s l hl).2 hs
  refine ⟨fun s' l' hl' => ?_, ?_⟩
  · by_cases e : s' = s
    · subst e
      rw [hl] at hl'
      obtain rfl := Option.some.inj hl'
      simp [Maps.has_del_same, hm]
    · rw [Maps.has_del_other (key_ne hl hl' e), h.1 s' l' hl']
      simp [hm, e]
  · have := Maps.size_del (k := l) ht
    rw [h1, h.2] at this
    simp at this
    omega

theorem ERel.put {comp : ByteArray} {ms' : List ByteArray} {E : DataW Unit} {l : Lit} {n : Int} (hE : IsMap E) (hl : keyOf Ybad.prog 9 (.string comp) = some l) (hn : n = (ms'.length : Int)) (h0 : 0 < ms'.length) : ERel comp ms' (E.put l (.lit (.int .i64 n))) := by
  intro l' hl'
  rw [hl] at hl'
  obtain rfl := Option.some.inj hl'
  subst hn
  exact ⟨by simp [Maps.has_put_same hE (law9.key hl), h0], Maps.atKey_put_same hE (law9.key hl) _ _⟩

theorem ERel.del {comp : ByteArray} {ms' : List ByteArray} {E : DataW Unit} {l : Lit} (hl : keyOf Ybad.prog 9 (.string comp) = some l) (h0 : ms'.length = 0) : ERel comp ms' (E.del l) := by
  intro l' hl'
  rw [hl] at hl'
  obtain rfl := Option.some.inj hl'
  exact ⟨by simp [Maps.has_del_same, h0], by rw [Maps.atKey_del_same, h0]; rfl⟩
end Go.Proofs.YbulkbeiaDoor
