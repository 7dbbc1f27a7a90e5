/-
  'LawS2769AScript' (function 3), walked.
-/
import Derived.Test.YbulkbeiaDoorUpdate
import Derived.Test.YbulkbeiaDoorModel
namespace Go.Proofs.YbulkbeiaDoor
open Go.RowKit Go.Maps
set_option linter.unusedVariables false
set_option linter.unusedSimpArgs false

/-- The script as it came in. -/
structure In (w : World) (b0 o0 n : Nat) (nm : Nat → ByteArray) (hd : Nat → Bool) : Prop where
  lt : b0 < w.heap.size
  c0 : ∀ i, i < n → w.cell? ⟨b0, o0 + i * 2, none⟩ = some (.string (nm i))
  c1 : ∀ i, i < n → w.cell? ⟨b0, o0 + i * 2 + 1, none⟩ = some (.bool (hd i))
  sz : ∀ i, i < n → (nm i).size ≤ maxLen

structure Mn (w : World) (comp : ByteArray) (R : Nat → Nat) (k : Nat) (ms : List ByteArray) (vM : Value) (X : World) : Prop where
  st : St R w.heap.size comp 0 k ms X
  cb : Im R 2 X (w.heap.size + 1) (cObj w.heap.size comp)
  own : Own R 5 w.heap.size X 9 vM ms.length (strs ms)
  nd : ms.Nodup
  len : ms.length ≤ k
  old : ∀ b, b < w.heap.size → R b = 99
  bel : Below w.heap.size w X

theorem Mn.step {w X X' : World} {comp : ByteArray} {R R' : Nat → Nat} {k : Nat} {ms : List ByteArray} {vM : Value} (M : Mn w comp R k ms vM X) (s : Step R R' [] X X') : Mn w comp R' k ms vM X' :=
  ⟨M.st.step s (by simp) (by simp) (by simp), M.cb.step s (by simp), M.own.step s (by simp), M.nd, M.len, s.old M.bel.size M.old (by simp), M.bel.trans (s.below M.bel.size M.old (by simp))⟩

theorem hide {p : Prop} (h : p) : Hid p := h

theorem start (w : World) (comp : ByteArray) : ∃ R, Mn w comp R 0 [] (.slice none 0 0) ((w.alloc (hObj 0 (.map none) (.map none) 0)).alloc (cObj w.heap.size comp)) := by
  have s0 := (Step.refl (fun _ => 99) [] w).alloc (hObj 0 (.map none) (.map none) 0) 1
  have s1 := (Step.refl (upd (fun _ => 99) w.heap.size 1) [] (w.alloc (hObj 0 (.map none) (.map none) 0))).alloc (cObj w.heap.size comp) 2
  have i0 := Im.alloc_new w (fun _ => 99) 1 (hObj 0 (.map none) (.map none) 0)
  have i1 := Im.alloc_new (w.alloc (hObj 0 (.map none) (.map none) 0)) (upd (fun _ => 99) w.heap.size 1) 2 (cObj w.heap.size comp)
  simp only [World.size_alloc] at i1 s1
  exact ⟨_, .inl ⟨rfl, i0.step s1 (by simp)⟩, i1, Own.nil _ _ _ _ _, List.nodup_nil, Nat.le_refl _, (s0.trans s1).old (Nat.le_refl _) (fun _ _ => rfl) (by simp), (s0.trans s1).below (Nat.le_refl _) (fun _ _ => rfl) (by simp)⟩

theorem nd_inj : ∀ {ms : List ByteArray}, ms.Nodup → ∀ {i j : Nat} (hi : i < ms.length) (hj : j < ms.length), ms[i] = ms[j] → i = j
  | [], _, i, _, hi, _, _ => absurd hi (by simp)
  | m :: ms, nd, 0, 0, _, _, _ => rfl
  | m :: ms, nd, 0, j + 1, _, hj, e => by
    have h := (List.nodup_cons.1 nd).1
    simp at e
    exact absurd (e ▸ List.getElem_mem (by simpa using hj)) h
  | m :: ms, nd, i + 1, 0, hi, _, e => by
    have h := (List.nodup_cons.1 nd).1
    simp at e
    exact absurd (e ▸ List.getElem_mem (by simpa using hi)) h
  | m :: ms, nd, i + 1, j + 1, hi, hj, e => by
    have := nd_inj (List.nodup_cons.1 nd).2 (by simpa using hi) (by simpa using hj) (by simpa using e)
    omega

theorem mem_erase {ms : List ByteArray} {j : Nat} (hj : j < ms.length) (nd : ms.Nodup) (x : ByteArray) : x ∈ ms.eraseIdx j ↔ x ∈ ms ∧ x ≠ ms[j] := by
  rw [List.mem_eraseIdx_iff_getElem]
  constructor
  · rintro ⟨i, hi, hne, rfl⟩
    exact ⟨List.getElem_mem _, fun e => hne (nd_inj nd hi hj e)⟩
  · rintro ⟨hx, hne⟩
    obtain ⟨i, hi, rfl⟩ := List.getElem_of_mem hx
    exact ⟨i, hi, fun e => hne (by subst e; rfl), rfl⟩

theorem nodup_snoc {ms : List ByteArray} {s : ByteArray} (nd : ms.Nodup) (h : s ∉ ms) : (ms ++ [s]).Nodup := by
  rw [List.nodup_append]
  refine ⟨nd, by simp, fun a ha b hb e => ?_⟩
  simp at hb
  exact h (by rw [← hb, ← e]; exact ha)
theorem nodup_erase {ms : List ByteArray} {j : Nat} (nd : ms.Nodup) : (ms.eraseIdx j).Nodup := nd.sublist (List.eraseIdx_sublist _ _)

/-- A round's end, behind the update. -/
theorem Mn.upd {w X Y w2 : World} {comp : ByteArray} {R R1 R2 : Nat → Nat} {k : Nat} {ms ms' : List ByteArray} {vM : Value} (M : Mn w comp R k ms vM X) (s1 : Step R R1 [] X Y) (s2 : Step R1 R2 [1, 3, 4] Y w2) (h2 : St R2 w.heap.size comp 0 (k + 1) ms' w2) :
    Im R2 2 w2 (w.heap.size + 1) (cObj w.heap.size comp) ∧ Own R2 5 w.heap.size w2 9 vM ms.length (strs ms) ∧ (∀ b, b < w.heap.size → R2 b = 99) ∧ Below w.heap.size w w2 := by
  have M1 := M.step s1
  exact ⟨M1.cb.step s2 (by simp), M1.own.step s2 (by simp), s2.old M1.bel.size M1.old (by simp), M1.bel.trans (s2.below M1.bel.size M1.old (by simp))⟩

theorem eq36 (w : World) : (binOp .eql 36 (.chan none) (.chan none)).run Ybad.prog w = .ok (.bool true) w := by
  have h : ∀ d : Nat, (Op.equalIn (d + 1) 36 (.chan none) (.chan none)).run Ybad.prog w = .ok true w := fun d => by
    simp [Op.equalIn, run_underlying Ybad.underlying36]
  simp only [binOp]
  simp [Op.equal, Op.maxDepth, h 9999]

theorem count_ok {X W : World} {nb n : Nat} {E : DataW Unit} {comp : ByteArray} {ms : List ByteArray} {l : Lit} (h : X.ownsMap Ybad.prog 9 (plainElem Ybad.prog 3) nb n E) (e : ERel comp ms E) (eW : W.heap[nb]? = X.heap[nb]?) (hl : keyOf Ybad.prog 9 (.string comp) = some l) :
    (Instr.lookup 32 (.map (some nb)) (.string comp) true).run Ybad.prog W = .ok (.tuple #[.int .i64 (ms.length : Int), .bool (decide (0 < ms.length))]) W := by
  obtain ⟨v, ps, hrun, hv⟩ := (owns_at h eW).look_ok law9 Ybad.underlying32 (zero3 W) (plainElem_int Ybad.underlying3 (by decide)) hl
  rw [(e l hl).2] at hv
  obtain ⟨c, rfl, hc, _⟩ := plainElem_int_inv Ybad.underlying3 hv
  simp at hc
  rw [← hc.1] at hrun
  have hb : Maps.has E l = decide (0 < ms.length) := by
    have := (e l hl).1
    cases hh : Maps.has E l with
    | true => rw [decide_eq_true (this.1 hh)]
    | false => rw [decide_eq_false (fun h0 => by rw [this.2 h0] at hh; cases hh)]
  rw [hb] at hrun
  exact hrun

def cc : ByteArray := ⟨#[99]⟩
theorem cc_ok : cc.size ≤ maxLen ∧ (cc.toList == []) = false := ⟨by unfold maxLen; decide, by rw [ByteArray.toList_eq]; rfl⟩

set_option maxRecDepth 100000 in
set_option maxHeartbeats 8000000 in
theorem law3 (w : World) (comp0 : ByteArray) (ea : Option Addr) (n cap0 : Nat) (nm : Nat → ByteArray) (hd : Nat → Bool) (hI : 0 < n → ∃ b0 o0, ea = some ⟨b0, o0, none⟩ ∧ In w b0 o0 n nm hd) (hn : n ≤ 256) (hc0 : comp0.size ≤ maxLen) :
    Calls Ybad.prog 3 #[.string comp0, .slice ea n cap0] w fun e w' => e = .returned (.bool true) ∧ Below w.heap.size w w' := by
  have hle : ¬ (256 : Int) < (n : Int) := by omega
  obtain ⟨i9, hi9, hz9, hs9, hb9⟩ := info_parts Ybad.info9
  have HI := hide hI
  clear hI
  obtain ⟨comp, hcomp, hc, hne⟩ : ∃ comp : ByteArray, (comp0.toList == [] ∧ comp = (⟨#[99]⟩ : ByteArray) ∨ (comp0.toList == []) = false ∧ comp = comp0) ∧ comp.size ≤ maxLen ∧ (comp.toList == []) = false := by
    cases hce : comp0.toList == []
    · exact ⟨comp0, .inr ⟨rfl, rfl⟩, hc0, hce⟩
    · exact ⟨cc, .inl ⟨rfl, rfl⟩, cc_ok⟩
  rcases hcomp with ⟨hce, hcomp⟩ | ⟨hce, hcomp⟩
  all_goals
    go_enter Ybad.func3, Ybad.ntmps3
    go_wp2_with fail
    rw [← hcomp]
    clear hcomp hce
    obtain ⟨R0, M0⟩ := start w comp
    go_loopw [7, 30] (fun v i X => ∃ k : Nat, k ≤ n ∧ i = .int .i64 k ∧ ∃ R ms, Mn w comp R k ms v X) (fun _ i _ => n - (intOf i).toNat)
    case atStart => exact ⟨0, Nat.zero_le _, rfl, R0, [], M0⟩
    case round =>
      obtain ⟨k, hk, rfl, R, ms, M⟩ := hrel
      by_cases hlt : k < n
      · have hlt' : (k : Int) < (n : Int) := by omega
        obtain ⟨b0, o0, rfl, hI⟩ := HI.out (by omega)
        have q0 : wr.cell? ⟨b0, o0 + k * 2, none⟩ = some (.string (nm k)) := (M.bel.cell (p := ⟨b0, o0 + k * 2, none⟩) hI.lt).trans (hI.c0 k hlt)
        have q1 : wr.cell? ⟨b0, o0 + k * 2 + 1, none⟩ = some (.bool (hd k)) := (M.bel.cell (p := ⟨b0, o0 + k * 2 + 1, none⟩) hI.lt).trans (hI.c1 k hlt)
        have hsz := hI.sz k hlt
        clear hI
        generalize nm k = s at q0 hsz
        generalize hd k = held at q1
        have hml := M.len
        obtain ⟨va, vc, hv⟩ := M.own.slice_len
        subst hv
        obtain ⟨R1, s1, hx1⟩ : ∃ R1, Step R R1 [] wr (wr.alloc (.cells #[.string s, .bool held] 44)) ∧ Im R1 0 (wr.alloc (.cells #[.string s, .bool held] 44)) wr.heap.size (.cells #[.string s, .bool held] 44) := ⟨_, (Step.refl R [] wr).alloc _ 0, Im.alloc_new _ _ _ _⟩
        have M1 := M.step s1
        by_cases hmem : s ∈ ms
        · obtain ⟨j, hj, hjs⟩ := List.getElem_of_mem hmem
          cases held
          · have hA : After false s ms (ms.eraseIdx j) := .inr (.inr (.inr ⟨rfl, hmem, fun x => by rw [mem_erase hj M.nd x, hjs], by rw [List.length_eraseIdx]; simp [hj]; omega⟩))
            go_wp2_with fail
            refine (update_any R1 w.heap.size (w.heap.size + 1) k comp s ms _ false _ M1.st M1.cb hc hne hsz (by omega) (by omega) hA).mono ?_
            rintro e1 w2 ⟨rfl, R2, s2, h2⟩
            obtain ⟨hcb2, hown2, hold2, hbel2⟩ := M.upd s1 s2 h2
            have x0 : w2.cell? ⟨wr.heap.size, 0, none⟩ = some (.string s) := (hx1.step s2 (by simp)).cell 0
            have x1 : w2.cell? ⟨wr.heap.size, 1, none⟩ = some (.bool false) := (hx1.step s2 (by simp)).cell 1
            go_wp2_with fail
            refine (index_any R2 w.heap.size w2 _ ms s hown2 (by omega)).mono ?_
            rintro e1 w3 ⟨⟨i, rfl, hi⟩, rfl⟩
            have hij : i = (j : Int) := by
              rcases hi with ⟨_, h⟩ | ⟨j', hj', rfl, e⟩
              · exact absurd hmem h
              · rw [nd_inj M.nd hj' hj (e.trans hjs.symm)]
            subst hij
            have hge : (0 : Int) ≤ (j : Int) := by omega
            go_wp2_with fail
            refine (remove_any R2 w.heap.size w3 _ ms j hown2 hbel2.size (by omega) hj).mono ?_
            rintro e1 w4 ⟨v', R4, rfl, s4, hown4⟩
            have HM : Hid (Mn w comp R4 (k + 1) (ms.eraseIdx j) v' w4) := ⟨h2.step s4 (by simp) (by simp) (by simp), hcb2.step s4 (by simp), hown4, nodup_erase M.nd, by rw [List.length_eraseIdx]; simp [hj]; omega, s4.old hbel2.size hold2 (by simp), hbel2.trans (s4.below hbel2.size hold2 (by simp))⟩
            clear hown4 s4 h2 s2 hcb2 hown2 hold2 hbel2 M M1 s1 hx1
            go_wp2_with fail
            go_roundw
            case rel => exact ⟨k + 1, by omega, by go_num, R4, _, HM.out⟩
            case measure => simp [intOf]; omega
          · have hA : After true s ms ms := .inl ⟨rfl, hmem, rfl⟩
            go_wp2_with fail
            refine (update_any R1 w.heap.size (w.heap.size + 1) k comp s ms _ true _ M1.st M1.cb hc hne hsz (by omega) (by omega) hA).mono ?_
            rintro e1 w2 ⟨rfl, R2, s2, h2⟩
            obtain ⟨hcb2, hown2, hold2, hbel2⟩ := M.upd s1 s2 h2
            have x0 : w2.cell? ⟨wr.heap.size, 0, none⟩ = some (.string s) := (hx1.step s2 (by simp)).cell 0
            have x1 : w2.cell? ⟨wr.heap.size, 1, none⟩ = some (.bool true) := (hx1.step s2 (by simp)).cell 1
            go_wp2_with fail
            refine (index_any R2 w.heap.size w2 _ ms s hown2 (by omega)).mono ?_
            rintro e1 w3 ⟨⟨i, rfl, hi⟩, rfl⟩
            have hij : i = (j : Int) := by
              rcases hi with ⟨h0, h⟩ | ⟨j', hj', h0, e⟩
              · exact absurd hmem h
              · rw [h0, nd_inj M.nd hj' hj (e.trans hjs.symm)]
            subst hij
            have hge : ¬ (j : Int) < 0 := by omega
            have HM : Hid (Mn w comp R2 (k + 1) ms (.slice va ms.length vc) w3) := ⟨h2, hcb2, hown2, M.nd, by omega, hold2, hbel2⟩
            clear h2 s2 hcb2 hown2 hold2 hbel2 M M1 s1 hx1
            go_wp2_with fail
            go_roundw
            case rel => exact ⟨k + 1, by omega, by go_num, R2, _, HM.out⟩
            case measure => simp [intOf]; omega
        · cases held
          · have hA : After false s ms ms := .inr (.inr (.inl ⟨rfl, hmem, rfl⟩))
            go_wp2_with fail
            refine (update_any R1 w.heap.size (w.heap.size + 1) k comp s ms _ false _ M1.st M1.cb hc hne hsz (by omega) (by omega) hA).mono ?_
            rintro e1 w2 ⟨rfl, R2, s2, h2⟩
            obtain ⟨hcb2, hown2, hold2, hbel2⟩ := M.upd s1 s2 h2
            have x0 : w2.cell? ⟨wr.heap.size, 0, none⟩ = some (.string s) := (hx1.step s2 (by simp)).cell 0
            have x1 : w2.cell? ⟨wr.heap.size, 1, none⟩ = some (.bool false) := (hx1.step s2 (by simp)).cell 1
            go_wp2_with fail
            refine (index_any R2 w.heap.size w2 _ ms s hown2 (by omega)).mono ?_
            rintro e1 w3 ⟨⟨i, rfl, hi⟩, rfl⟩
            have hij : i = -1 := by
              rcases hi with ⟨h0, h⟩ | ⟨j', hj', h0, e⟩
              · exact h0
              · exact absurd (e ▸ List.getElem_mem hj') hmem
            subst hij
            have hge : True := trivial
            have HM : Hid (Mn w comp R2 (k + 1) ms (.slice va ms.length vc) w3) := ⟨h2, hcb2, hown2, M.nd, by omega, hold2, hbel2⟩
            clear h2 s2 hcb2 hown2 hold2 hbel2 M M1 s1 hx1
            go_wp2_with fail
            go_roundw
            case rel => exact ⟨k + 1, by omega, by go_num, R2, _, HM.out⟩
            case measure => simp [intOf]; omega
          · have hA : After true s ms (ms ++ [s]) := .inr (.inl ⟨rfl, hmem, rfl⟩)
            go_wp2_with fail
            refine (update_any R1 w.heap.size (w.heap.size + 1) k comp s ms _ true _ M1.st M1.cb hc hne hsz (by omega) (by omega) hA).mono ?_
            rintro e1 w2 ⟨rfl, R2, s2, h2⟩
            obtain ⟨hcb2, hown2, hold2, hbel2⟩ := M.upd s1 s2 h2
            have x0 : w2.cell? ⟨wr.heap.size, 0, none⟩ = some (.string s) := (hx1.step s2 (by simp)).cell 0
            have x1 : w2.cell? ⟨wr.heap.size, 1, none⟩ = some (.bool true) := (hx1.step s2 (by simp)).cell 1
            go_wp2_with fail
            refine (index_any R2 w.heap.size w2 _ ms s hown2 (by omega)).mono ?_
            rintro e1 w3 ⟨⟨i, rfl, hi⟩, rfl⟩
            have hij : i = -1 := by
              rcases hi with ⟨h0, h⟩ | ⟨j', hj', h0, e⟩
              · exact h0
              · exact absurd (e ▸ List.getElem_mem hj') hmem
            subst hij
            have hsz3 := hbel2.size
            go_wp2_with (first | (at_builtin; refine wpList_append_own_at _ rfl _ _ 42 rfl w.heap.size 9 i9 (.string ⟨#[]⟩) 1 16 Ybad.underlying42 hi9 hz9 hs9 hb9 rfl (by decide) _ _ _ rfl (hown2.1.alloc _) _ 1 1 [.string s] rfl rfl ?c1 (one_cell' _ rfl) ?c3 ?c4 ?c5 ?_))
            case c1 => exact one_new _ _ _ _ (by first | rfl | simp)
            case c3 => unfold maxLen; omega
            case c4 => omega
            case c5 => simp; omega
            intro v' w4 hown' hgrow _ hat
            obtain ⟨R4, s4, hO4⟩ := hown2.appended (S := [5]) (by simp) hown' hgrow (by simpa using hat)
            have HM : Hid (Mn w comp R4 (k + 1) (ms ++ [s]) v' w4) := ⟨h2.step s4 (by simp) (by simp) (by simp), hcb2.step s4 (by simp), by simpa [strs] using hO4, nodup_snoc M.nd hmem, by simp; omega, s4.old hbel2.size hold2 (by simp), hbel2.trans (s4.below hbel2.size hold2 (by simp))⟩
            clear hown' hgrow hat s4 hO4 h2 s2 hcb2 hown2 hold2 hbel2 M M1 s1 hx1
            go_wp2_with fail
            go_roundw
            case rel => exact ⟨k + 1, by omega, by go_num, R4, _, HM.out⟩
            case measure => simp [intOf]; omega
      · obtain rfl : k = n := by omega
        have hlt' : ¬ (k : Int) < (k : Int) := by omega
        obtain ⟨va, vc, hv⟩ := M.own.slice_len
        subst hv
        have hml := M.len
        have hown := M.own
        have hbel := M.bel
        have hold := M.old
        have q36 := eq36
        rcases M.st with ⟨rfl, hi⟩ | ⟨rb, nb, D, E, hi, hD, hE, d, e⟩
        · clear M
          obtain ⟨X0, rfl⟩ : ∃ X0, X0 = wr := ⟨_, rfl⟩
          have r2 : X0.cell? ⟨w.heap.size, 2, none⟩ = some (.map none) := hi.cell 2
          have hln : ∀ (W : World) (ty : TypeId), (Builtin.len_ #[31] ty #[.map none]).run Ybad.prog W = .ok (.int .i64 0) W := fun W ty => len_nil (w := W) Ybad.underlying31 ty
          go_wp2_with fail
          go_loopw [76] (fun i Y => ∃ q : Nat, q ≤ k ∧ i = .int .i64 q ∧ ∃ R', Step R R' [] X0 Y) (fun i _ => k - (intOf i).toNat)
          case atStart => exact ⟨0, Nat.zero_le _, rfl, R, Step.refl _ _ _⟩
          case round =>
            obtain ⟨q, hq, rfl, R', st⟩ := hrel
            have hi' := hi.step st (by simp)
            have hbw := hbel.trans (st.below hbel.size hold (by simp))
            by_cases hqlt : q < k
            · have hqlt' : (q : Int) < (k : Int) := by omega
              obtain ⟨b0, o0, rfl, hI⟩ := HI.out (by omega)
              have q0 : wr.cell? ⟨b0, o0 + q * 2, none⟩ = some (.string (nm q)) := (hbw.cell (p := ⟨b0, o0 + q * 2, none⟩) hI.lt).trans (hI.c0 q hqlt)
              have q1 : wr.cell? ⟨b0, o0 + q * 2 + 1, none⟩ = some (.bool (hd q)) := (hbw.cell (p := ⟨b0, o0 + q * 2 + 1, none⟩) hI.lt).trans (hI.c1 q hqlt)
              have hsz := hI.sz q hqlt
              clear hI hbw
              generalize nm q = s at q0 hsz
              generalize hd q = held at q1
              have c2 : wr.cell? ⟨w.heap.size, 2, none⟩ = some (.map none) := hi'.cell 2
              have lth := hi'.lt
              have lth1 : w.heap.size < wr.heap.size + 1 := by omega
              have lth2 : w.heap.size < wr.heap.size + 1 + 1 := by omega
              obtain ⟨l, hl⟩ := key50 comp s hc hsz
              obtain ⟨R2, s2, hx2⟩ : ∃ R2, Step R' R2 [] wr ((wr.alloc (.cells #[.string s, .bool held] 44)).alloc (.cells #[] 24)).drew ∧ Im R2 0 ((wr.alloc (.cells #[.string s, .bool held] 44)).alloc (.cells #[] 24)).drew wr.heap.size (.cells #[.string s, .bool held] 44) :=
                ⟨_, (((Step.refl R' [] wr).alloc (.cells #[.string s, .bool held] 44) 0).alloc (.cells #[] 24) 0).drew, (Im.alloc_new wr R' 0 (.cells #[.string s, .bool held] 44)).step (((Step.refl _ [] _).alloc (.cells #[] 24) 0).drew) (by simp)⟩
              have hl1 : ∀ W : World, (Instr.lookup 31 (.map none) (.agg #[.string comp, .string s]) true).run Ybad.prog W = .ok (.tuple #[.agg #[], .bool false]) W := fun W => look_nil true law50 Ybad.underlying31 (zero24 W) hl
              go_wp2_with fail
              go_region
              all_goals
                generalize hY : ((wr.alloc (.cells #[.string s, .bool held] 44)).alloc (.cells #[] 24)).drew = Y at s2 hx2 ⊢
                have hownY := (hown.step st (by simp)).step s2 (by simp)
                have x0 : Y.cell? ⟨wr.heap.size, 0, none⟩ = some (.string s) := hx2.cell 0
                go_wp2_with fail
                refine (index_any R2 w.heap.size Y _ [] s hownY (by first | omega | simp)).mono ?_
                rintro e1 w3 ⟨⟨i, rfl, hii⟩, rfl⟩
                have hij : i = -1 := by
                  rcases hii with ⟨h0, h⟩ | ⟨j', hj', h0, e⟩
                  · exact h0
                  · exact absurd hj' (by simp)
                subst hij
                go_wp2_with fail
                go_roundw
                case rel => exact ⟨q + 1, by omega, by go_num, R2, st.trans s2⟩
                case measure => simp [intOf]; omega
            · obtain rfl : q = k := by omega
              have hqlt' : ¬ (q : Int) < (q : Int) := by omega
              have z4 : wr.cell? ⟨w.heap.size, 4, none⟩ = some (.map none) := hi'.cell 4
              have z5 : wr.cell? ⟨w.heap.size, 5, none⟩ = some (.int .i32 0) := hi'.cell 5
              have z3 : wr.cell? ⟨w.heap.size, 3, none⟩ = some (.int .u8 0) := hi'.cell 3
              have z6 : wr.cell? ⟨w.heap.size, 6, none⟩ = some (.chan none) := hi'.cell 6
              obtain ⟨l9, hk9⟩ : ∃ l9, keyOf Ybad.prog 9 (.string comp) = some l9 := ⟨_, Go.WideMaps.keyOf_string_mk Ybad.underlying9 hc⟩
              have hl9 : ∀ W : World, (Instr.lookup 32 (.map none) (.string comp) true).run Ybad.prog W = .ok (.tuple #[.int .i64 0, .bool false]) W := fun W => look_nil true law9 Ybad.underlying32 (zero3 W) hk9
              go_wp2_with (go_at_call 8; refine (load32 w.heap.size 5 _ _ z5).mono ?_; rintro e w' ⟨rfl, rfl⟩)
              go_ret
              exact ⟨rfl, hbw⟩
        · clear M
          obtain ⟨X0, rfl⟩ : ∃ X0, X0 = wr := ⟨_, rfl⟩
          have r2 : X0.cell? ⟨w.heap.size, 2, none⟩ = some (.map (some rb)) := hi.cell 2
          have hln : ∀ ty : TypeId, (Builtin.len_ #[31] ty #[.map (some rb)]).run Ybad.prog X0 = .ok (.int .i64 (ms.length : Int)) X0 := fun ty => by rw [← d.2]; exact hD.2.len Ybad.underlying31 ty
          go_wp2_with fail
          go_loopw [76] (fun i Y => ∃ q : Nat, q ≤ k ∧ i = .int .i64 q ∧ ∃ R', Step R R' [] X0 Y) (fun i _ => k - (intOf i).toNat)
          case atStart => exact ⟨0, Nat.zero_le _, rfl, R, Step.refl _ _ _⟩
          case round =>
            obtain ⟨q, hq, rfl, R', st⟩ := hrel
            have hi' := hi.step st (by simp)
            have hbw := hbel.trans (st.below hbel.size hold (by simp))
            by_cases hqlt : q < k
            · have hqlt' : (q : Int) < (k : Int) := by omega
              obtain ⟨b0, o0, rfl, hI⟩ := HI.out (by omega)
              have q0 : wr.cell? ⟨b0, o0 + q * 2, none⟩ = some (.string (nm q)) := (hbw.cell (p := ⟨b0, o0 + q * 2, none⟩) hI.lt).trans (hI.c0 q hqlt)
              have q1 : wr.cell? ⟨b0, o0 + q * 2 + 1, none⟩ = some (.bool (hd q)) := (hbw.cell (p := ⟨b0, o0 + q * 2 + 1, none⟩) hI.lt).trans (hI.c1 q hqlt)
              have hsz := hI.sz q hqlt
              clear hI hbw
              generalize nm q = s at q0 hsz
              generalize hd q = held at q1
              have c2 : wr.cell? ⟨w.heap.size, 2, none⟩ = some (.map (some rb)) := hi'.cell 2
              have lth := hi'.lt
              have lth1 : w.heap.size < wr.heap.size + 1 := by omega
              have lth2 : w.heap.size < wr.heap.size + 1 + 1 := by omega
              obtain ⟨l, hl⟩ := key50 comp s hc hsz
              obtain ⟨R2, s2, hx2⟩ : ∃ R2, Step R' R2 [] wr ((wr.alloc (.cells #[.string s, .bool held] 44)).alloc (.cells #[] 24)).drew ∧ Im R2 0 ((wr.alloc (.cells #[.string s, .bool held] 44)).alloc (.cells #[] 24)).drew wr.heap.size (.cells #[.string s, .bool held] 44) :=
                ⟨_, (((Step.refl R' [] wr).alloc (.cells #[.string s, .bool held] 44) 0).alloc (.cells #[] 24) 0).drew, (Im.alloc_new wr R' 0 (.cells #[.string s, .bool held] 44)).step (((Step.refl _ [] _).alloc (.cells #[] 24) 0).drew) (by simp)⟩
              have hDr := hD.step st (by simp)
              have ltr := hDr.2.lt
              have la := look31 (W := (wr.alloc (.cells #[.string s, .bool held] 44)).drew) hDr.2 (Below.heap_alloc _ _ _ ltr) hl
              have lb := look31 (W := ((wr.alloc (.cells #[.string s, .bool held] 44)).alloc (.cells #[] 24)).drew) hDr.2 ((Below.heap_alloc _ _ _ (by simp; omega)).trans (Below.heap_alloc _ _ _ ltr)) hl
              have hdm := d.1 s l hl
              obtain ⟨bo, hbo⟩ : ∃ bo, Maps.has D l = bo := ⟨_, rfl⟩
              rw [hbo] at la lb hdm
              have HDM := hide hdm
              clear hdm hbo
              go_wp2_with fail
              go_region
              all_goals
                generalize hY : ((wr.alloc (.cells #[.string s, .bool held] 44)).alloc (.cells #[] 24)).drew = Y at s2 hx2 ⊢
                have hownY := (hown.step st (by simp)).step s2 (by simp)
                have x0 : Y.cell? ⟨wr.heap.size, 0, none⟩ = some (.string s) := hx2.cell 0
                go_wp2_with fail
                refine (index_any R2 w.heap.size Y _ ms s hownY (by first | omega | simp)).mono ?_
                rintro e1 w3 ⟨⟨i, rfl, hii⟩, rfl⟩
                rcases hii with ⟨rfl, h⟩ | ⟨j', hj', rfl, ej⟩
                · have hb : bo = false := by
                    cases bo with
                    | false => rfl
                    | true => exact absurd (HDM.out.1 rfl) h
                  subst hb
                  go_wp2_with fail
                  go_roundw
                  case rel => exact ⟨q + 1, by omega, by go_num, R2, st.trans s2⟩
                  case measure => simp [intOf]; omega
                · have hb : bo = true := HDM.out.2 (by rw [← ej]; exact List.getElem_mem hj')
                  subst hb
                  have hge : (0 : Int) ≤ (j' : Int) := by omega
                  go_wp2_with fail
                  go_roundw
                  case rel => exact ⟨q + 1, by omega, by go_num, R2, st.trans s2⟩
                  case measure => simp [intOf]; omega
            · obtain rfl : q = k := by omega
              have hqlt' : ¬ (q : Int) < (q : Int) := by omega
              have z4 : wr.cell? ⟨w.heap.size, 4, none⟩ = some (.map (some nb)) := hi'.cell 4
              have z5 : wr.cell? ⟨w.heap.size, 5, none⟩ = some (.int .i32 (ms.length : Int)) := hi'.cell 5
              have z3 : wr.cell? ⟨w.heap.size, 3, none⟩ = some (.int .u8 0) := hi'.cell 3
              have z6 : wr.cell? ⟨w.heap.size, 6, none⟩ = some (.chan none) := hi'.cell 6
              obtain ⟨l9, hk9⟩ : ∃ l9, keyOf Ybad.prog 9 (.string comp) = some l9 := ⟨_, Go.WideMaps.keyOf_string_mk Ybad.underlying9 hc⟩
              have hEr := hE.step st (by simp)
              have hcnt := count_ok (W := wr) hEr.2 e rfl hk9
              have hw32 : wrap32 (ms.length : Int) = (ms.length : Int) := by simp [wrap32]; omega
              by_cases hz : 0 < ms.length
              · have hz' : (0 : Int) < (ms.length : Int) := by omega
                rw [decide_eq_true hz] at hcnt
                go_wp2_with (go_at_call 8; refine (load32 w.heap.size 5 _ _ z5).mono ?_; rintro e w' ⟨rfl, rfl⟩)
                go_ret
                exact ⟨rfl, hbw⟩
              · have hz' : ¬ (0 : Int) < (ms.length : Int) := by omega
                rw [decide_eq_false hz] at hcnt
                go_wp2_with (go_at_call 8; refine (load32 w.heap.size 5 _ _ z5).mono ?_; rintro e w' ⟨rfl, rfl⟩)
                go_ret
                exact ⟨rfl, hbw⟩
end Go.Proofs.YbulkbeiaDoor
