/-
  'appendRefs' (function 9).
-/
import Derived.Test.YbulkbegyEnts
import Derived.OwnWalk
namespace Go.Proofs.Ybulkbegy
open Go.RowKit
set_option linter.unusedVariables false
set_option linter.unusedSimpArgs false

theorem Yba.info27 : (Yba.prog.info? 27).map (fun i => (i.zero, i.size, i.bytes)) = some (some (.pointer none), 1, 8) := by kernel_rfl

theorem Own.cell_at {R : Nat → Nat} {X : World} {q N n g cap : Nat} {e : TypeId} {xs : List Value} (h : Own R q N X e (.slice (some ⟨g, 0, none⟩) n cap) n xs) (i : Nat) (hi : i < n) : X.cell? ⟨g, i, none⟩ = xs[i]? :=
  World.ownsRow.cellAt h.1 i (by omega)

/-- What holds at the head of round k: of the first k entries those that are refs have theirs. -/
def RefRel (R : Nat → Nat) (N : Nat) (X : World) (es : List Ent) (p : Nat) (ps : List Value) (k : Nat) (v : Value) (wr : World) : Prop :=
  ∃ (prs : List (Ent × Nat × Nat)) (R1 : Nat → Nat), prs.map (·.1) = (es.take k).filter isOut ∧ Step R R1 [1] X wr ∧ Own R1 1 N wr 27 v (p + prs.length) (ps ++ prs.map fun t => ptr t.2.1) ∧ ∀ t ∈ prs, RefOk R1 wr t

theorem take_next {es : List Ent} {k : Nat} {e : Ent} (he : es[k]? = some e) : (es.take (k + 1)).filter isOut = (es.take k).filter isOut ++ if isOut e then [e] else [] := by
  obtain ⟨hk, rfl⟩ := List.getElem?_eq_some_iff.1 he
  rw [List.take_succ_eq_append_getElem hk, List.filter_append]
  cases h : isOut es[k] <;> simp [h]

theorem RefRel.pass {R : Nat → Nat} {N : Nat} {X : World} {es : List Ent} {p : Nat} {ps : List Value} {k : Nat} {v : Value} {wr : World} {e : Ent} (h : RefRel R N X es p ps k v wr) (he : es[k]? = some e) (ho : isOut e = false) :
    RefRel R N X es p ps (k + 1) v wr := by
  obtain ⟨prs, R1, h1, h2, h3, h4⟩ := h
  exact ⟨prs, R1, by rw [take_next he, ho, h1]; simp, h2, h3, h4⟩

/-- A ref more. -/
theorem RefRel.push {R : Nat → Nat} {N : Nat} {X : World} {es : List Ent} {p : Nat} {ps : List Value} {k : Nat} {v v' : Value} {wr W w1 : World} {e : Ent} {prs : List (Ent × Nat × Nat)} {R1 R2 : Nat → Nat} {o1 : Obj} {rb nb : Nat}
    (h1 : prs.map (·.1) = (es.take k).filter isOut) (h2 : Step R R1 [1] X wr) (h3 : Own R1 1 N wr 27 v (p + prs.length) (ps ++ prs.map fun t => ptr t.2.1)) (h4 : ∀ t ∈ prs, RefOk R1 wr t)
    (he : es[k]? = some e) (s : Step R1 R2 [] wr W) (hr : RefOk R2 W (e, rb, nb))
    (hown' : w1.ownsRow N 27 1 v' (p + prs.length + 1) (ps ++ ((prs.map fun t => ptr t.2.1) ++ [ptr rb]))) (hg : (W.alloc o1).grownBy w1 v.ownBlock) {c : Nat} (hat : v'.ownBlock = v.ownBlock ∨ v'.ownBlock = some c) (hc : c = W.heap.size + 1) :
    RefRel R N X es p ps (k + 1) v' w1 := by
  have hO := h3.step s (by simp)
  obtain ⟨R3, s3, hO3⟩ := hO.appended (S := [1]) (by simp) (by rw [List.append_assoc]; exact hown') hg (hc ▸ hat)
  refine ⟨prs ++ [(e, rb, nb)], R3, ?_, (h2.trans (s.mono (by simp))).trans s3, ?_, ?_⟩
  · rw [take_next he, hr.out, List.map_append, h1]; rfl
  · simpa [List.append_assoc, Nat.add_assoc] using hO3
  · intro t ht
    rcases List.mem_append.1 ht with ht | ht
    · exact ((h4 t ht).step s (by simp)).step s3 (by simp)
    · obtain rfl := List.mem_singleton.1 ht
      exact hr.step s3 (by simp)

theorem ref_empty (wr : World) (R1 : Nat → Nat) (e : Ent) (hkd : e.kd = 1) : ∃ R2, Step R1 R2 [] wr (((wr.alloc (nodeObj (.slice none 0 0))).alloc (refObj (ptr e.db) (ptr wr.heap.size) (bareOf e.nk) nilp)).drew) ∧
    RefOk R2 (((wr.alloc (nodeObj (.slice none 0 0))).alloc (refObj (ptr e.db) (ptr wr.heap.size) (bareOf e.nk) nilp)).drew) (e, wr.heap.size + 1, wr.heap.size) := by
  have s0 := (Step.refl R1 [] wr).alloc (nodeObj (.slice none 0 0)) 0
  have s1 := (s0.alloc (refObj (ptr e.db) (ptr wr.heap.size) (bareOf e.nk) nilp) 0)
  have s2 := (Step.refl (upd R1 wr.heap.size 0) [] (wr.alloc (nodeObj (.slice none 0 0)))).alloc (refObj (ptr e.db) (ptr wr.heap.size) (bareOf e.nk) nilp) 0
  refine ⟨_, s1.drew, ⟨by unfold isOut; rw [hkd]; rfl, fun h => absurd (h.symm.trans hkd) (by decide), fun _ => ⟨?_, ?_⟩⟩⟩
  · have := Im.alloc_new (wr.alloc (nodeObj (.slice none 0 0))) (upd R1 wr.heap.size 0) 0 (refObj (ptr e.db) (ptr wr.heap.size) (bareOf e.nk) nilp)
    simp only [World.size_alloc] at this ⊢
    unfold wname walias wdef
    rw [if_neg (by rw [hkd]; decide), if_neg (by rw [hkd]; decide)]
    exact this
  · exact (Im.alloc_new wr R1 0 (nodeObj (.slice none 0 0))).step (S := []) s2.drew (by simp)

theorem ref_node0 (wr : World) (R1 : Nat → Nat) (e : Ent) (hkd : e.kd = 0) (hh : hit e.inns = none) : ∃ R2, Step R1 R2 [] wr (wr.alloc (refObj (ptr e.db) (ptr e.vb) (bareOf e.nk) nilp)) ∧
    RefOk R2 (wr.alloc (refObj (ptr e.db) (ptr e.vb) (bareOf e.nk) nilp)) (e, wr.heap.size, 0) := by
  refine ⟨_, (Step.refl R1 [] wr).alloc _ 0, ⟨by unfold isOut; rw [hkd]; rfl, fun _ => ?_, fun h => absurd (h.symm.trans hkd) (by decide)⟩⟩
  have := Im.alloc_new wr R1 0 (refObj (ptr e.db) (ptr e.vb) (bareOf e.nk) nilp)
  unfold wname walias wdef wnode
  rw [if_pos hkd, if_pos hkd, if_pos hkd, hh]
  exact this

theorem ref_node1 (wr W1 : World) (R1 : Nat → Nat) (e : Ent) (i : Inn) (m : Nat) (hW : W1 = wr.alloc (refObj (ptr e.db) (ptr e.vb) (bareOf e.nk) nilp)) (hkd : e.kd = 0) (hh : hit e.inns = some i) (hik : i.kd ≤ 1) :
    ∃ R2, Step R1 R2 [] wr (((W1.drewN m).setCell ⟨wr.heap.size, 2, none⟩ (.string (textOf i.tx))).setCell ⟨wr.heap.size, 3, none⟩ (.pointer (some ⟨i.vb, 0, none⟩))) ∧
    RefOk R2 (((W1.drewN m).setCell ⟨wr.heap.size, 2, none⟩ (.string (textOf i.tx))).setCell ⟨wr.heap.size, 3, none⟩ (.pointer (some ⟨i.vb, 0, none⟩))) (e, wr.heap.size, 0) ∧
    (((W1.drewN m).setCell ⟨wr.heap.size, 2, none⟩ (.string (textOf i.tx))).setCell ⟨wr.heap.size, 3, none⟩ (.pointer (some ⟨i.vb, 0, none⟩))).heap.size = wr.heap.size + 1 := by
  subst hW
  have s1 := ((((Step.refl R1 [] wr).alloc (refObj (ptr e.db) (ptr e.vb) (bareOf e.nk) nilp) 0).drewN m).setCellNew (p := ⟨wr.heap.size, 2, none⟩) (Nat.le_refl _) (.string (textOf i.tx))).setCellNew (p := ⟨wr.heap.size, 3, none⟩) (Nat.le_refl _) (.pointer (some ⟨i.vb, 0, none⟩))
  refine ⟨_, s1, ⟨by unfold isOut; rw [hkd]; rfl, fun _ => ⟨upd_same _ _ _, ?_⟩, fun h => absurd (h.symm.trans hkd) (by decide)⟩, by simp [World.setCell]⟩
  unfold wname walias wdef wnode
  rw [if_pos hkd, if_pos hkd, if_pos hkd, hh]
  simp only [nameBy, aliasBy]
  rw [if_pos hik, if_pos hik]
  have hb : (wr.alloc (refObj (ptr e.db) (ptr e.vb) (bareOf e.nk) nilp)).heap[wr.heap.size]? = some (refObj (ptr e.db) (ptr e.vb) (bareOf e.nk) nilp) := (Im.alloc_new wr R1 0 _).2
  simp only [World.setCell, World.drewN, Array.getElem?_modify, if_true]
  rw [hb]
  rfl

theorem ref_node2 (wr W1 : World) (R1 : Nat → Nat) (e : Ent) (i : Inn) (m : Nat) (hW : W1 = wr.alloc (refObj (ptr e.db) (ptr e.vb) (bareOf e.nk) nilp)) (hkd : e.kd = 0) (hh : hit e.inns = some i) (hik : ¬ i.kd ≤ 1) :
    ∃ R2, Step R1 R2 [] wr (W1.drewN m) ∧ RefOk R2 (W1.drewN m) (e, wr.heap.size, 0) ∧ (W1.drewN m).heap.size = wr.heap.size + 1 := by
  subst hW
  have s1 := ((Step.refl R1 [] wr).alloc (refObj (ptr e.db) (ptr e.vb) (bareOf e.nk) nilp) 0).drewN m
  refine ⟨_, s1, ⟨by unfold isOut; rw [hkd]; rfl, fun _ => ⟨upd_same _ _ _, ?_⟩, fun h => absurd (h.symm.trans hkd) (by decide)⟩, by simp⟩
  unfold wname walias wdef wnode
  rw [if_pos hkd, if_pos hkd, if_pos hkd, hh]
  simp only [nameBy, aliasBy]
  rw [if_neg hik, if_neg hik]
  exact (Im.alloc_new wr R1 0 (refObj (ptr e.db) (ptr e.vb) (bareOf e.nk) nilp)).2

/-- A contract kept from the walk. -/
theorem hideCalls {P : Program} {f : FuncId} {a : Array Value} {w : World} {Q : Ending → World → Prop} (h : Calls P f a w Q) : Hid (Calls P f a w Q) := h

theorem text_size (t : Nat) : 2 ≤ (quoted (textOf t)).size ∧ (quoted (textOf t)).size ≤ 1000 ∧ (quoted (textOf t)).extract 1 ((quoted (textOf t)).size - 1) = textOf t := by
  match t with
  | 0 => decide
  | 1 => decide
  | n + 2 => show 2 ≤ (quoted (textOf 2)).size ∧ (quoted (textOf 2)).size ≤ 1000 ∧ (quoted (textOf 2)).extract 1 ((quoted (textOf 2)).size - 1) = textOf 2; decide

theorem one_new (W : World) (x : Value) (t : TypeId) (b : Nat) (hb : b = W.heap.size) : ∀ j u, [x][j]? = some u → (W.alloc (.cells #[x] t)).cell? ((⟨b, 0, none⟩ : Addr).add j) = some u := by
  subst hb
  exact cell_one_new W x t

theorem one_cell (b : Nat) : ∀ u ∈ [ptr b], u.oneCell' = true := by
  intro u hu
  obtain rfl := List.mem_singleton.1 hu
  rfl

set_option maxHeartbeats 4000000 in
theorem refs_pos (R : Nat → Nat) (N : Nat) (X : World) (bb : Nat) (es : List Ent) (p : Nat) (ps : List Value) (vL vB : Value) (hpos : 0 < es.length) (hlen : es.length ≤ 256) (hp : p ≤ 3) (hN : N ≤ X.heap.size)
    (hb : Im R 7 X bb (nodeObj vB)) (hB : Own R 6 N X 28 vB es.length (es.map wdef)) (hL : Own R 1 N X 27 vL p ps) (hes : ∀ e ∈ es, EntOk R N X e) :
    Calls Yba.prog 9 #[vL, .iface 29 (.pointer (some ⟨bb, 0, none⟩))] X fun e w' => ∃ v, e = .returned v ∧ RefRel R N X es p ps es.length v w' := by
  obtain ⟨i0, hi, hz0, hz1, hz2⟩ := info_parts Yba.info27
  obtain ⟨g, cap, rfl, hc⟩ := hB.some_at hpos
  have c3 : X.cell? ⟨bb, 3, none⟩ = some (.slice (some ⟨g, 0, none⟩) es.length cap) := by rw [hb.cell]; rfl
  have ta := as29_29
  clear hc
  go_enter Yba.func9, Yba.ntmps9
  go_wp2_with fail
  go_loopw [0, 28] (fun v i wr => ∃ k : Nat, k ≤ es.length ∧ i = .int .i64 k ∧ RefRel R N X es p ps k v wr) (fun _ i _ => es.length - (intOf i).toNat)
  case atStart => exact ⟨0, Nat.zero_le _, rfl, [], R, rfl, Step.refl _ _ _, by simpa using hL, fun t ht => by cases ht⟩
  case round =>
    obtain ⟨k, hk, rfl, hrel⟩ := hrel
    by_cases hlt : k < es.length
    · have hlt' : (k : Int) < (es.length : Int) := by omega
      obtain ⟨e, he⟩ : ∃ e, es[k]? = some e := ⟨_, List.getElem?_eq_getElem hlt⟩
      have HR : Hid (RefRel R N X es p ps k u0 wr) := hrel
      obtain ⟨prs, R1, h1, h2, h3, h4⟩ := hrel
      have E : EntOk R1 N wr e := (hes e (List.mem_of_getElem? he)).step h2 (by simp)
      have q0 : wr.cell? ⟨g, k, none⟩ = some (.pointer (some ⟨e.db, 0, none⟩)) := by
        rw [(hB.step h2 (by simp)).cell_at k hlt, List.getElem?_map, he]; rfl
      have q1 : wr.cell? ⟨e.db, 7, none⟩ = some (.iface (etyp e.kd) (.pointer (some ⟨e.vb, 0, none⟩))) := by rw [E.hd.cell]; rfl
      have q2 : wr.cell? ⟨e.db, 0, none⟩ = some (.string (nameOf e.nk)) := by rw [E.hd.cell]; rfl
      have hpl : prs.length ≤ 256 := by
        have a1 := congrArg List.length h1
        have a2 := List.length_filter_le isOut (es.take k)
        simp at a1 a2
        omega
      have HE : Hid (es[k]? = some e) := he
      have H1 : Hid (prs.map (·.1) = (es.take k).filter isOut) := h1
      clear he h1 hb hB hL hes c3
      rcases (show e.kd = 0 ∨ e.kd = 1 ∨ e.kd = 2 ∨ e.kd = 3 ∨ e.kd = 4 by have := E.hkd; omega) with hkd | hkd | hkd | hkd | hkd
      · -- a node
        obtain ⟨hI, hO, hil, hin⟩ := E.h0 hkd
        rw [hkd] at q1
        change wr.cell? ⟨e.db, 7, none⟩ = some (.iface 29 (.pointer (some ⟨e.vb, 0, none⟩))) at q1
        have hnk := E.hnk
        have HK : Hid (e.kd = 0) := hkd
        have sA := (Step.refl R1 [] wr).alloc (refObj (ptr e.db) (ptr e.vb) (bareOf e.nk) nilp) 0
        have LK := lookup_list e.vb e.inns e.dv _ (by rw [(hI.step sA (by simp)).cell]; rfl) (hO.step sA (by simp)) hil (fun i hi => ⟨(hin i hi).hnk, by rw [((hin i hi).hd.step sA (by simp)).cell]; rfl⟩)
        clear hkd E
        cases hh : hit e.inns with
        | none =>
          rw [hh] at LK
          have HH : Hid (hit e.inns = none) := hh
          have LK' := hideCalls LK
          clear LK hh hI hO hin
          go_wp2_with fail
          refine (nodeOf_node _ _).mono ?_
          rintro e1 w' ⟨rfl, hw⟩
          obtain rfl := hw.symm
          go_wp2_with fail
          refine (bare_any e.nk e.db _ hnk q2).mono ?_
          rintro e1 w' ⟨rfl, hw⟩
          obtain rfl := hw.symm
          go_wp2_with fail
          refine LK'.out.mono ?_
          rintro e1 w' ⟨he1, rfl⟩
          obtain rfl : e1 = .returned (.pointer none) := he1
          go_wp2_with (first | (at_builtin; refine wpList_append_own_at _ rfl _ _ 26 rfl N 27 i0 (.pointer none) 1 8 Yba.underlying26 hi hz0 hz1 hz2 rfl (by decide) _ _ _ rfl ((h3.1.alloc _).alloc _) ⟨wr.heap.size + 1, 0, none⟩ 1 1 [ptr wr.heap.size] rfl rfl ?c1 (one_cell _) ?c3 ?c4 ?c5 ?_))
          case c1 => exact one_new _ _ _ _ (by simp)
          case c3 => unfold maxLen; omega
          case c4 => omega
          case c5 => have := h2.size; simp; omega
          intro v' w1 hown' hgrow _ hat
          obtain ⟨R2, s2, hr⟩ := ref_node0 wr R1 e HK.out HH.out
          have HN : Hid (RefRel R N X es p ps (k + 1) v' w1) := RefRel.push H1.out h2 h3 h4 HE.out s2 hr hown' hgrow hat (by simp)
          clear s2 hr hown' hgrow hat h2 h3 h4
          go_wp2_with fail
          go_roundw
          case rel => exact ⟨k + 1, by omega, by go_num, HN.out⟩
          case measure => simp [intOf]; omega
        | some i =>
          rw [hh] at LK
          have him : i ∈ e.inns := List.mem_of_find?_eq_some hh
          have I := (hin i him).step sA (by simp)
          have lib := (hin i him).hd.lt
          have r7 : (wr.alloc (refObj (ptr e.db) (ptr e.vb) (bareOf e.nk) nilp)).cell? ⟨i.db, 7, none⟩ = some (.iface (ityp i.kd) (.pointer (some ⟨i.vb, 0, none⟩))) := by rw [I.hd.cell]; rfl
          have HH : Hid (hit e.inns = some i) := hh
          have LK' := hideCalls LK
          rcases (show i.kd = 0 ∨ i.kd = 1 ∨ i.kd = 2 ∨ i.kd = 3 by have := I.hkd; omega) with hik | hik | hik | hik
          · -- a string
            have hS := I.h0 hik
            have t0 : (wr.alloc (refObj (ptr e.db) (ptr e.vb) (bareOf e.nk) nilp)).cell? ⟨i.vb, 0, none⟩ = some (.int .i64 0) := by rw [hS.cell]; rfl
            have t1 : (wr.alloc (refObj (ptr e.db) (ptr e.vb) (bareOf e.nk) nilp)).cell? ⟨i.vb, 1, none⟩ = some (.string (quoted (textOf i.tx))) := by rw [hS.cell]; rfl
            rw [hik] at r7
            change (wr.alloc (refObj (ptr e.db) (ptr e.vb) (bareOf e.nk) nilp)).cell? ⟨i.db, 7, none⟩ = some (.iface 30 (.pointer (some ⟨i.vb, 0, none⟩))) at r7
            have HI : Hid (i.kd = 0) := hik
            have tt := is30_30
            have tz := text_size i.tx
            clear LK hh hI hO hin hik I him hS
            go_wp2_with fail
            refine (nodeOf_node _ _).mono ?_
            rintro e1 w' ⟨rfl, hw⟩
            obtain rfl := hw.symm
            go_wp2_with fail
            refine (bare_any e.nk e.db _ hnk q2).mono ?_
            rintro e1 w' ⟨rfl, hw⟩
            obtain rfl := hw.symm
            go_wp2_with fail
            refine LK'.out.mono ?_
            rintro e1 W1 ⟨he1, hW1⟩
            obtain rfl : e1 = .returned (.pointer (some ⟨i.db, 0, none⟩)) := he1
            rw [← hW1] at t0 t1 r7
            have v2 : W1.cell? ⟨wr.heap.size, 2, none⟩ = some (.string (bareOf e.nk)) := by rw [hW1]; simp [go_sem, refObj]
            have v3 : W1.cell? ⟨wr.heap.size, 3, none⟩ = some (.pointer none) := by rw [hW1]; simp [go_sem, refObj, nilp]
            have f2 : W1.frozen? ⟨wr.heap.size, 2, none⟩ = false := by rw [hW1]; simp [go_sem, refObj]
            have f3 : W1.frozen? ⟨wr.heap.size, 3, none⟩ = false := by rw [hW1]; simp [go_sem, refObj]
            have HW : Hid (W1 = wr.alloc (refObj (ptr e.db) (ptr e.vb) (bareOf e.nk) nilp)) := hW1
            clear hW1 LK' sA
            go_wp2_with fail
            refine (scalar_string i.vb _ _ tz.1 tz.2.1 t0 t1).mono ?_
            rintro e1 w' ⟨rfl, n, rfl⟩
            rw [tz.2.2]
            go_wp2_with fail
            go_region
            obtain ⟨R2, s2, hr, hsz⟩ := ref_node1 wr W1 R1 e i (n + 1) HW.out HK.out HH.out (by rw [HI.out]; decide)
            have hown0 := (h3.step s2 (by simp)).1
            have HZ : Hid (_ = wr.heap.size + 1) := hsz
            clear hsz
            go_wp2_with (first | (at_builtin; refine wpList_append_own_at _ rfl _ _ 26 rfl N 27 i0 (.pointer none) 1 8 Yba.underlying26 hi hz0 hz1 hz2 rfl (by decide) _ _ _ rfl (hown0.alloc _) _ 1 1 [ptr wr.heap.size] rfl rfl ?c1 (one_cell _) ?c3 ?c4 ?c5 ?_))
            case c1 => exact one_new _ _ _ _ (by first | rfl | simp)
            case c3 => unfold maxLen; omega
            case c4 => omega
            case c5 => have := h2.size; have := s2.size; simp at this ⊢; omega
            intro v' w1 hown' hgrow _ hat
            have HN : Hid (RefRel R N X es p ps (k + 1) v' w1) := RefRel.push H1.out h2 h3 h4 HE.out s2 hr hown' hgrow hat (by simp)
            clear s2 hr hown' hgrow hat h2 h3 h4 hown0
            go_wp2_with fail
            go_roundw
            case rel => exact ⟨k + 1, by omega, by go_num, HN.out⟩
            case measure => simp [intOf]; omega
          · -- a reference
            have hS := I.h1 hik
            have t0 : (wr.alloc (refObj (ptr e.db) (ptr e.vb) (bareOf e.nk) nilp)).cell? ⟨i.vb, 0, none⟩ = some (.int .i64 4) := by rw [hS.cell]; rfl
            have t1 : (wr.alloc (refObj (ptr e.db) (ptr e.vb) (bareOf e.nk) nilp)).cell? ⟨i.vb, 1, none⟩ = some (.string (textOf i.tx)) := by rw [hS.cell]; rfl
            rw [hik] at r7
            change (wr.alloc (refObj (ptr e.db) (ptr e.vb) (bareOf e.nk) nilp)).cell? ⟨i.db, 7, none⟩ = some (.iface 30 (.pointer (some ⟨i.vb, 0, none⟩))) at r7
            have HI : Hid (i.kd = 1) := hik
            have tt := is30_30
            clear LK hh hI hO hin hik I him hS
            go_wp2_with fail
            refine (nodeOf_node _ _).mono ?_
            rintro e1 w' ⟨rfl, hw⟩
            obtain rfl := hw.symm
            go_wp2_with fail
            refine (bare_any e.nk e.db _ hnk q2).mono ?_
            rintro e1 w' ⟨rfl, hw⟩
            obtain rfl := hw.symm
            go_wp2_with fail
            refine LK'.out.mono ?_
            rintro e1 W1 ⟨he1, hW1⟩
            obtain rfl : e1 = .returned (.pointer (some ⟨i.db, 0, none⟩)) := he1
            rw [← hW1] at t0 t1 r7
            have v2 : W1.cell? ⟨wr.heap.size, 2, none⟩ = some (.string (bareOf e.nk)) := by rw [hW1]; simp [go_sem, refObj]
            have v3 : W1.cell? ⟨wr.heap.size, 3, none⟩ = some (.pointer none) := by rw [hW1]; simp [go_sem, refObj, nilp]
            have f2 : W1.frozen? ⟨wr.heap.size, 2, none⟩ = false := by rw [hW1]; simp [go_sem, refObj]
            have f3 : W1.frozen? ⟨wr.heap.size, 3, none⟩ = false := by rw [hW1]; simp [go_sem, refObj]
            have HW : Hid (W1 = wr.alloc (refObj (ptr e.db) (ptr e.vb) (bareOf e.nk) nilp)) := hW1
            clear hW1 LK' sA
            go_wp2_with fail
            refine (scalar_ref i.vb _ _ t0 t1).mono ?_
            rintro e1 w' ⟨rfl, n, rfl⟩
            go_wp2_with fail
            go_region
            obtain ⟨R2, s2, hr, hsz⟩ := ref_node1 wr W1 R1 e i (n + 1) HW.out HK.out HH.out (by rw [HI.out]; decide)
            have hown0 := (h3.step s2 (by simp)).1
            have HZ : Hid (_ = wr.heap.size + 1) := hsz
            clear hsz
            go_wp2_with (first | (at_builtin; refine wpList_append_own_at _ rfl _ _ 26 rfl N 27 i0 (.pointer none) 1 8 Yba.underlying26 hi hz0 hz1 hz2 rfl (by decide) _ _ _ rfl (hown0.alloc _) _ 1 1 [ptr wr.heap.size] rfl rfl ?c1 (one_cell _) ?c3 ?c4 ?c5 ?_))
            case c1 => exact one_new _ _ _ _ (by first | rfl | simp)
            case c3 => unfold maxLen; omega
            case c4 => omega
            case c5 => have := h2.size; have := s2.size; simp at this ⊢; omega
            intro v' w1 hown' hgrow _ hat
            have HN : Hid (RefRel R N X es p ps (k + 1) v' w1) := RefRel.push H1.out h2 h3 h4 HE.out s2 hr hown' hgrow hat (by simp)
            clear s2 hr hown' hgrow hat h2 h3 h4 hown0
            go_wp2_with fail
            go_roundw
            case rel => exact ⟨k + 1, by omega, by go_num, HN.out⟩
            case measure => simp [intOf]; omega
          · -- a node
            rw [hik] at r7
            change (wr.alloc (refObj (ptr e.db) (ptr e.vb) (bareOf e.nk) nilp)).cell? ⟨i.db, 7, none⟩ = some (.iface 29 (.pointer (some ⟨i.vb, 0, none⟩))) at r7
            have HI : Hid (i.kd = 2) := hik
            clear LK hh hI hO hin hik I him
            go_wp2_with fail
            refine (nodeOf_node _ _).mono ?_
            rintro e1 w' ⟨rfl, hw⟩
            obtain rfl := hw.symm
            go_wp2_with fail
            refine (bare_any e.nk e.db _ hnk q2).mono ?_
            rintro e1 w' ⟨rfl, hw⟩
            obtain rfl := hw.symm
            go_wp2_with fail
            refine LK'.out.mono ?_
            rintro e1 W1 ⟨he1, hW1⟩
            obtain rfl : e1 = .returned (.pointer (some ⟨i.db, 0, none⟩)) := he1
            rw [← hW1] at r7
            have HW : Hid (W1 = wr.alloc (refObj (ptr e.db) (ptr e.vb) (bareOf e.nk) nilp)) := hW1
            clear hW1 LK' sA
            go_wp2_with fail
            refine (scalar_node _ _).mono ?_
            rintro e1 w' ⟨rfl, n, rfl⟩
            obtain ⟨R2, s2, hr, hsz⟩ := ref_node2 wr W1 R1 e i n HW.out HK.out HH.out (by rw [HI.out]; decide)
            have hown0 := (h3.step s2 (by simp)).1
            have HZ : Hid (_ = wr.heap.size + 1) := hsz
            clear hsz
            go_wp2_with (first | (at_builtin; refine wpList_append_own_at _ rfl _ _ 26 rfl N 27 i0 (.pointer none) 1 8 Yba.underlying26 hi hz0 hz1 hz2 rfl (by decide) _ _ _ rfl (hown0.alloc _) _ 1 1 [ptr wr.heap.size] rfl rfl ?c1 (one_cell _) ?c3 ?c4 ?c5 ?_))
            case c1 => exact one_new _ _ _ _ (by first | rfl | simp)
            case c3 => unfold maxLen; omega
            case c4 => omega
            case c5 => have := h2.size; have := s2.size; simp at this ⊢; omega
            intro v' w1 hown' hgrow _ hat
            have HN : Hid (RefRel R N X es p ps (k + 1) v' w1) := RefRel.push H1.out h2 h3 h4 HE.out s2 hr hown' hgrow hat (by simp)
            clear s2 hr hown' hgrow hat h2 h3 h4 hown0
            go_wp2_with fail
            go_roundw
            case rel => exact ⟨k + 1, by omega, by go_num, HN.out⟩
            case measure => simp [intOf]; omega
          · -- an array
            rw [hik] at r7
            change (wr.alloc (refObj (ptr e.db) (ptr e.vb) (bareOf e.nk) nilp)).cell? ⟨i.db, 7, none⟩ = some (.iface 56 (.pointer (some ⟨i.vb, 0, none⟩))) at r7
            have HI : Hid (i.kd = 3) := hik
            clear LK hh hI hO hin hik I him
            go_wp2_with fail
            refine (nodeOf_node _ _).mono ?_
            rintro e1 w' ⟨rfl, hw⟩
            obtain rfl := hw.symm
            go_wp2_with fail
            refine (bare_any e.nk e.db _ hnk q2).mono ?_
            rintro e1 w' ⟨rfl, hw⟩
            obtain rfl := hw.symm
            go_wp2_with fail
            refine LK'.out.mono ?_
            rintro e1 W1 ⟨he1, hW1⟩
            obtain rfl : e1 = .returned (.pointer (some ⟨i.db, 0, none⟩)) := he1
            rw [← hW1] at r7
            have HW : Hid (W1 = wr.alloc (refObj (ptr e.db) (ptr e.vb) (bareOf e.nk) nilp)) := hW1
            clear hW1 LK' sA
            go_wp2_with fail
            refine (scalar_array _ _).mono ?_
            rintro e1 w' ⟨rfl, n, rfl⟩
            obtain ⟨R2, s2, hr, hsz⟩ := ref_node2 wr W1 R1 e i n HW.out HK.out HH.out (by rw [HI.out]; decide)
            have hown0 := (h3.step s2 (by simp)).1
            have HZ : Hid (_ = wr.heap.size + 1) := hsz
            clear hsz
            go_wp2_with (first | (at_builtin; refine wpList_append_own_at _ rfl _ _ 26 rfl N 27 i0 (.pointer none) 1 8 Yba.underlying26 hi hz0 hz1 hz2 rfl (by decide) _ _ _ rfl (hown0.alloc _) _ 1 1 [ptr wr.heap.size] rfl rfl ?c1 (one_cell _) ?c3 ?c4 ?c5 ?_))
            case c1 => exact one_new _ _ _ _ (by first | rfl | simp)
            case c3 => unfold maxLen; omega
            case c4 => omega
            case c5 => have := h2.size; have := s2.size; simp at this ⊢; omega
            intro v' w1 hown' hgrow _ hat
            have HN : Hid (RefRel R N X es p ps (k + 1) v' w1) := RefRel.push H1.out h2 h3 h4 HE.out s2 hr hown' hgrow hat (by simp)
            clear s2 hr hown' hgrow hat h2 h3 h4 hown0
            go_wp2_with fail
            go_roundw
            case rel => exact ⟨k + 1, by omega, by go_num, HN.out⟩
            case measure => simp [intOf]; omega
      · -- an empty array
        have hI := E.h1 hkd
        have a0 : wr.cell? ⟨e.vb, 0, none⟩ = some (.int .i64 0) := by rw [hI.cell]; rfl
        have a1 : wr.cell? ⟨e.vb, 1, none⟩ = some (.int .i64 0) := by rw [hI.cell]; rfl
        have a2 : wr.cell? ⟨e.vb, 2, none⟩ = some (.int .i64 0) := by rw [hI.cell]; rfl
        have a3 : wr.cell? ⟨e.vb, 3, none⟩ = some (.slice none 0 0) := by rw [hI.cell]; rfl
        have a4 : wr.cell? ⟨e.vb, 4, none⟩ = some (.int .i64 0) := by rw [hI.cell]; rfl
        have a5 : wr.cell? ⟨e.vb, 5, none⟩ = some (.int .i64 0) := by rw [hI.cell]; rfl
        have a6 : wr.cell? ⟨e.vb, 6, none⟩ = some (.int .i64 0) := by rw [hI.cell]; rfl
        rw [hkd] at q1
        change wr.cell? ⟨e.db, 7, none⟩ = some (.iface 56 (.pointer (some ⟨e.vb, 0, none⟩))) at q1
        have ldb : e.db < wr.heap.size := E.hd.lt
        have hnk := E.hnk
        have HK : Hid (e.kd = 1) := hkd
        clear hkd hI E
        go_wp2_with fail
        refine (nodeOf_empty e.vb _ a0 a1 a2 a3 a4 a5 a6).mono ?_
        rintro e1 w' ⟨rfl, rfl⟩
        go_wp2_with fail
        refine (bare_any e.nk e.db _ hnk ?_).mono ?_
        · simp [go_sem, q2, ldb]
        rintro e1 w' ⟨rfl, rfl⟩
        go_wp2_with fail
        refine (lookup_zero _ none 0 (fun _ => 0) (fun _ => 0) _ ?_).mono ?_
        · simp [go_sem]
        rintro e1 w' ⟨rfl, rfl⟩
        have hz : aliasPtr (fun _ => 0) (fun _ => 0) 0 = .pointer none := rfl
        rw [hz]
        clear hz
        go_wp2_with (first | (at_builtin; refine wpList_append_own_at _ rfl _ _ 26 rfl N 27 i0 (.pointer none) 1 8 Yba.underlying26 hi hz0 hz1 hz2 rfl (by decide) _ _ _ rfl (((h3.1.alloc _).alloc _).alloc _).drew ⟨wr.heap.size + 1 + 1, 0, none⟩ 1 1 [ptr (wr.heap.size + 1)] rfl rfl ?c1 (one_cell _) ?c3 ?c4 ?c5 ?_))
        case c1 => exact one_new _ _ _ _ (by simp)
        case c3 => unfold maxLen; omega
        case c4 => omega
        case c5 => have := h2.size; simp; omega
        intro v' w1 hown' hgrow _ hat
        obtain ⟨R2, s2, hr⟩ := ref_empty wr R1 e HK.out
        have HN : Hid (RefRel R N X es p ps (k + 1) v' w1) := RefRel.push H1.out h2 h3 h4 HE.out s2 hr hown' hgrow hat (by simp)
        clear s2 hr hown' hgrow hat h2 h3 h4
        go_wp2_with fail
        go_roundw
        case rel => exact ⟨k + 1, by omega, by go_num, HN.out⟩
        case measure => simp [intOf]; omega
      · -- a full array
        obtain ⟨a, c, hI⟩ := E.h2 hkd
        have q3 : wr.cell? ⟨e.vb, 3, none⟩ = some (.slice a 1 c) := by rw [hI.cell]; rfl
        rw [hkd] at q1
        have ho : Hid (isOut e = false) := by unfold Hid isOut; rw [hkd]; rfl
        clear hkd h2 h3 h4 E hI
        change wr.cell? ⟨e.db, 7, none⟩ = some (.iface 56 (.pointer (some ⟨e.vb, 0, none⟩))) at q1
        go_wp2_with fail
        refine (nodeOf_full e.vb a c _ q3).mono ?_
        rintro e1 w' ⟨rfl, rfl⟩
        go_wp2_with fail
        go_roundw
        case rel => exact ⟨k + 1, by omega, by go_num, HR.out.pass HE.out ho.out⟩
        case measure => simp [intOf]; omega
      · -- a scalar
        rw [hkd] at q1
        have ho : Hid (isOut e = false) := by unfold Hid isOut; rw [hkd]; rfl
        clear hkd h2 h3 h4 E
        change wr.cell? ⟨e.db, 7, none⟩ = some (.iface 30 (.pointer (some ⟨e.vb, 0, none⟩))) at q1
        go_wp2_with fail
        refine (nodeOf_scalar _ _).mono ?_
        rintro e1 w' ⟨rfl, rfl⟩
        go_wp2_with fail
        go_roundw
        case rel => exact ⟨k + 1, by omega, by go_num, HR.out.pass HE.out ho.out⟩
        case measure => simp [intOf]; omega
      · -- a cast
        rw [hkd] at q1
        have ho : Hid (isOut e = false) := by unfold Hid isOut; rw [hkd]; rfl
        clear hkd h2 h3 h4 E
        change wr.cell? ⟨e.db, 7, none⟩ = some (.iface 60 (.pointer (some ⟨e.vb, 0, none⟩))) at q1
        go_wp2_with fail
        refine (nodeOf_cast _ _).mono ?_
        rintro e1 w' ⟨rfl, rfl⟩
        go_wp2_with fail
        go_roundw
        case rel => exact ⟨k + 1, by omega, by go_num, HR.out.pass HE.out ho.out⟩
        case measure => simp [intOf]; omega
    · obtain rfl : k = es.length := by omega
      have hlt' : ¬ (es.length : Int) < (es.length : Int) := by omega
      go_wp2_with fail
      go_ret
      exact ⟨_, rfl, hrel⟩
end Go.Proofs.Ybulkbegy
