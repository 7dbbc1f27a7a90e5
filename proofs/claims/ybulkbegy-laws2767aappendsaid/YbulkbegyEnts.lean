/-
  What the law builds, entry by entry, and what it expects of 'appendRefs'.
-/
import Derived.Test.YbulkbegyHeap
import Derived.Test.YbulkbegyLookup
namespace Go.Proofs.Ybulkbegy
open Go.RowKit
set_option linter.unusedVariables false
set_option linter.unusedSimpArgs false

def z64 : Value := .int .i64 0
/-- A definition inside a node: its name's number, its value's kind, its text's number; its block, its value's block. -/
structure Inn where
  nk : Nat
  kd : Nat
  tx : Nat
  db : Nat
  vb : Nat
/-- A pointer to block b. -/
def ptr (b : Nat) : Value := .pointer (some ⟨b, 0, none⟩)
def nilp : Value := .pointer none
/-- The type that an inner definition's value holds. -/
def ityp : Nat → TypeId
  | 0 => 30 | 1 => 30 | 2 => 29 | _ => 56
/-- A text between quotes. -/
def quoted (s : ByteArray) : ByteArray := ⟨#[34]⟩ ++ s ++ ⟨#[34]⟩

/-- A Definition's block. -/
def defObj (k : Nat) (t : TypeId) (vb : Nat) : Obj := .cells #[.string (nameOf k), .int .i64 0, .int .i64 0, .int .i64 0, .int .i64 0, .int .i64 0, .int .i64 0, .iface t (.pointer (some ⟨vb, 0, none⟩)), .pointer none] 49
/-- A Node's block. -/
def nodeObj (dv : Value) : Obj := .cells #[.int .i64 0, .int .i64 0, .int .i64 0, dv, .int .i64 0, .int .i64 0, .int .i64 0] 39
/-- An Array's block. -/
def arrObj (dv : Value) : Obj := .cells #[.int .i64 0, .int .i64 0, .int .i64 0, dv, .int .i64 0, .int .i64 0, .int .i64 0] 59
/-- A Scalar's block. -/
def scalObj (k : Int) (s : ByteArray) : Obj := .cells #[.int .i64 k, .string s, .int .i64 0, .int .i64 0, .int .i64 0] 55

structure InnOk (R : Nat → Nat) (X : World) (i : Inn) : Prop where
  hnk : i.nk < 7
  hkd : i.kd < 4
  hd : Im R 0 X i.db (defObj i.nk (ityp i.kd) i.vb)
  h0 : i.kd = 0 → Im R 0 X i.vb (scalObj 0 (quoted (textOf i.tx)))
  h1 : i.kd = 1 → Im R 0 X i.vb (scalObj 4 (textOf i.tx))

theorem InnOk.step {R R' : Nat → Nat} {S : List Nat} {X X' : World} {i : Inn} (h : InnOk R X i) (s : Step R R' S X X') (h0 : 0 ∉ S) : InnOk R' X' i :=
  ⟨h.hnk, h.hkd, h.hd.step s h0, fun e => (h.h0 e).step s h0, fun e => (h.h1 e).step s h0⟩

/-- An entry of the block: its name's number, its value's kind; its block, its value's block; a node's slice of definitions, and those. -/
structure Ent where
  nk : Nat
  kd : Nat
  db : Nat
  vb : Nat
  dv : Value
  inns : List Inn
def etyp : Nat → TypeId
  | 0 => 29 | 1 => 56 | 2 => 56 | 3 => 30 | _ => 60

structure EntOk (R : Nat → Nat) (N : Nat) (X : World) (e : Ent) : Prop where
  hnk : e.nk < 7
  hkd : e.kd < 5
  hd : Im R 0 X e.db (defObj e.nk (etyp e.kd) e.vb)
  h0 : e.kd = 0 → Im R 0 X e.vb (nodeObj e.dv) ∧ Own R 0 N X 28 e.dv e.inns.length (e.inns.map fun i => ptr i.db) ∧ e.inns.length ≤ 256 ∧ ∀ i ∈ e.inns, InnOk R X i
  h1 : e.kd = 1 → Im R 0 X e.vb (arrObj (.slice none 0 0))
  h2 : e.kd = 2 → ∃ a c, Im R 0 X e.vb (arrObj (.slice a 1 c))

theorem EntOk.step {R R' : Nat → Nat} {N : Nat} {S : List Nat} {X X' : World} {e : Ent} (h : EntOk R N X e) (s : Step R R' S X X') (n0 : 0 ∉ S) : EntOk R' N X' e :=
  ⟨h.hnk, h.hkd, h.hd.step s n0, fun k => ⟨(h.h0 k).1.step s n0, (h.h0 k).2.1.step s n0, (h.h0 k).2.2.1, fun i hi => ((h.h0 k).2.2.2 i hi).step s n0⟩,
    fun k => (h.h1 k).step s n0, fun k => by obtain ⟨a, c, hi⟩ := h.h2 k; exact ⟨a, c, hi.step s n0⟩⟩

/-! ### What the law expects -/
/-- The first definition named Alias. -/
def hit (is : List Inn) : Option Inn := is.find? fun i => isAlias i.nk
theorem hit_snoc (is : List Inn) (i : Inn) : hit (is ++ [i]) = match hit is with
    | some j => some j
    | none => if isAlias i.nk then some i else none := by
  unfold hit
  rw [List.find?_append]
  cases h : is.find? fun i => isAlias i.nk with
  | some j => rfl
  | none =>
    cases ha : isAlias i.nk with
    | true => simp [List.find?_cons, ha]
    | false => simp [List.find?_cons, ha]

/-- The name and the alias that a hit gives. -/
def nameBy (bare : ByteArray) : Option Inn → ByteArray
  | some i => if i.kd ≤ 1 then textOf i.tx else bare
  | none => bare
def aliasBy : Option Inn → Value
  | some i => if i.kd ≤ 1 then ptr i.vb else nilp
  | none => nilp

def isOut (e : Ent) : Bool := e.kd ≤ 1
def wdef (e : Ent) : Value := ptr e.db
def wnode (e : Ent) : Value := if e.kd = 0 then ptr e.vb else nilp
def wname (e : Ent) : ByteArray := if e.kd = 0 then nameBy (bareOf e.nk) (hit e.inns) else bareOf e.nk
def walias (e : Ent) : Value := if e.kd = 0 then aliasBy (hit e.inns) else nilp

/-- A SignalRef's block. -/
def refObj (d n : Value) (s : ByteArray) (a : Value) : Obj := .cells #[d, n, .string s, a, .pointer none, .pointer none, .pointer none] 34

/-- The ref in block rb is the one for e; nb: the node of an empty array. -/
structure RefOk (R : Nat → Nat) (X : World) (t : Ent × Nat × Nat) : Prop where
  out : isOut t.1 = true
  h0 : t.1.kd = 0 → Im R 0 X t.2.1 (refObj (wdef t.1) (wnode t.1) (wname t.1) (walias t.1))
  h1 : t.1.kd = 1 → Im R 0 X t.2.1 (refObj (wdef t.1) (ptr t.2.2) (wname t.1) (walias t.1)) ∧ Im R 0 X t.2.2 (nodeObj (.slice none 0 0))
theorem RefOk.step {R R' : Nat → Nat} {S : List Nat} {X X' : World} {t : Ent × Nat × Nat} (h : RefOk R X t) (s : Step R R' S X X') (n0 : 0 ∉ S) : RefOk R' X' t :=
  ⟨h.out, fun k => (h.h0 k).step s n0, fun k => ⟨(h.h1 k).1.step s n0, (h.h1 k).2.step s n0⟩⟩

/-! ### Lookup, over such a list -/
theorem getD_at {is : List Inn} {j : Nat} {i d : Inn} (h : is[j]? = some i) : is.getD j d = i := by simp [List.getD, h]

def noInn : Inn := ⟨0, 0, 0, 0, 0⟩
theorem firstAlias_all {K : Nat → Nat} : ∀ {n : Nat}, (∀ i, i < n → isAlias (K i) = false) → firstAlias K n = none
  | 0, _ => rfl
  | n + 1, h => by
    have h1 := firstAlias_all (n := n) fun i hi => h i (by omega)
    have h2 := h n (by omega)
    simp only [firstAlias, h1, h2]
    rfl

theorem look_is (is : List Inn) : aliasPtr (fun j => (is.getD j noInn).nk) (fun j => (is.getD j noInn).db) is.length = (match hit is with | some i => ptr i.db | none => nilp) := by
  cases h : hit is with
  | none =>
    refine aliasPtr_none (firstAlias_all fun j hj => ?_)
    have hn := List.find?_eq_none.1 h (is[j]'hj) (List.getElem_mem _)
    have e : is.getD j noInn = is[j]'hj := getD_at (by simp)
    show isAlias (is.getD j noInn).nk = false
    rw [e]
    simpa using hn
  | some i =>
    obtain ⟨hp, pre, post, rfl, hno⟩ := List.find?_eq_some_iff_append.1 h
    have hj : (pre ++ i :: post)[pre.length]? = some i := by simp
    have hfa : firstAlias (fun j => ((pre ++ i :: post).getD j noInn).nk) pre.length = none := firstAlias_all fun j hlt => by
      have hm := hno (pre[j]'hlt) (List.getElem_mem _)
      have he : (pre ++ i :: post).getD j noInn = pre[j]'hlt := getD_at (by rw [List.getElem?_append_left hlt]; simp)
      show isAlias ((pre ++ i :: post).getD j noInn).nk = false
      rw [he]
      simpa using hm
    have := aliasPtr_some (D := fun j => ((pre ++ i :: post).getD j noInn).db) (firstAlias_some (K := fun j => ((pre ++ i :: post).getD j noInn).nk) (n := (pre ++ i :: post).length) (j := pre.length) (by simp) (by show isAlias _ = true; rw [getD_at hj]; exact hp) hfa)
    rw [this]
    show Value.pointer (some ⟨((pre ++ i :: post).getD pre.length noInn).db, 0, none⟩) = _
    rw [getD_at hj]
    rfl

theorem lookup_list {R : Nat → Nat} {q N : Nat} (nb : Nat) (is : List Inn) (dv : Value) (w : World) (h3 : w.cell? ⟨nb, 3, none⟩ = some dv) (hown : Own R q N w 28 dv is.length (is.map fun i => ptr i.db)) (hlen : is.length ≤ 256)
    (hok : ∀ i ∈ is, i.nk < 7 ∧ w.cell? ⟨i.db, 0, none⟩ = some (.string (nameOf i.nk))) :
    Calls Yba.prog 15 #[.pointer (some ⟨nb, 0, none⟩), .string ⟨#[65, 108, 105, 97, 115]⟩] w fun e w' => e = .returned (match hit is with | some i => ptr i.db | none => nilp) ∧ w' = w := by
  rw [← look_is is]
  by_cases h0 : is.length = 0
  · obtain ⟨a, c, rfl⟩ := hown.slice_len
    rw [h0] at h3 ⊢
    exact lookup_zero nb a c _ _ w h3
  · obtain ⟨g, cap, rfl, hc⟩ := hown.some_at (by omega)
    have at_ : ∀ j, j < is.length → is[j]? = some (is.getD j noInn) := fun j hj => by simp [List.getD, hj]
    refine lookup_some nb g is.length cap _ _ w (by omega) (by omega) h3 (fun j hj => ?_) (fun j hj => (hok _ (List.mem_of_getElem? (at_ j hj))).1) (fun j hj => (hok _ (List.mem_of_getElem? (at_ j hj))).2)
    rw [hc j hj, List.getElem?_map, at_ j hj]
    rfl
end Go.Proofs.Ybulkbegy
