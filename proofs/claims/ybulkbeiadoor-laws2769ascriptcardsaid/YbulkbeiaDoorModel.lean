/-
  The law's own model: zzs2769aindex (function 6), zzs2769aremove (function 7), walked.
-/
import Derived.Test.YbulkbeiaDoorProg
import Derived.Test.YbulkbeiaDoorHeap
import Derived.WalkKit
import Derived.WalkLawsBesides
import Derived.Outline
import Derived.OwnWalk
import Derived.Maps.AppendAt
import Derived.Deep.OwnRows
import Derived.Laws.StructEq
namespace Go.Proofs.YbulkbeiaDoor
open Go.RowKit
set_option linter.unusedVariables false
set_option linter.unusedSimpArgs false

theorem str_beq (a b : ByteArray) : (a.toList == b.toList) = decide (a = b) := by
  by_cases h : a = b
  · subst h; simp
  · have hn : a.toList ≠ b.toList := fun e => h (by
      rw [ByteArray.toList_eq, ByteArray.toList_eq] at e
      cases a; cases b
      simp at e
      rw [e])
    simp [h, hn]

def strs (ms : List ByteArray) : List Value := ms.map Value.string
theorem strs_at {ms : List ByteArray} {i : Nat} (h : i < ms.length) : (strs ms)[i]? = some (.string ms[i]) := by simp [strs, h]

/-- What the index says. -/
def IdxOk (ms : List ByteArray) (s : ByteArray) (i : Int) : Prop := (i = -1 ∧ s ∉ ms) ∨ ∃ j : Nat, ∃ h : j < ms.length, i = (j : Int) ∧ ms[j] = s

set_option maxHeartbeats 1000000 in
theorem index_any (R : Nat → Nat) (N : Nat) (X : World) (v : Value) (ms : List ByteArray) (s : ByteArray) (hO : Own R 5 N X 9 v ms.length (strs ms)) (hlen : ms.length ≤ 256) :
    Calls Ybad.prog 6 #[v, .string s] X fun e w' => (∃ i, e = .returned (.int .i64 i) ∧ IdxOk ms s i) ∧ w' = X := by
  obtain ⟨a, cap, rfl⟩ := hO.slice_len
  have hl := hO.length
  go_enter Ybad.func6, Ybad.ntmps6
  go_wp2_with fail
  go_loop [5] (fun i => ∃ j : Nat, j ≤ ms.length ∧ i = .int .i64 j ∧ Hid (∀ q (h : q < ms.length), q < j → ms[q] ≠ s)) (fun i => ms.length - (intOf i).toNat)
  case atStart => exact ⟨0, Nat.zero_le _, rfl, fun q _ h => absurd h (Nat.not_lt_zero _)⟩
  case round =>
    obtain ⟨j, hj, rfl, hno⟩ := hrel
    by_cases hlt : j < ms.length
    · have hlt' : (j : Int) < (ms.length : Int) := by omega
      obtain ⟨g, cap', hv, hc⟩ := hO.some_at (by omega)
      simp only [Value.slice.injEq, true_and] at hv
      obtain ⟨rfl, rfl⟩ := hv
      have q := hc j hlt
      rw [strs_at hlt] at q
      clear hc
      generalize hmj : ms[j] = mj at q
      by_cases he : mj = s
      · have hb : (mj.toList == s.toList) = true := by rw [str_beq]; simp [he]
        go_wp2_with fail
        go_ret
        exact ⟨⟨_, rfl, .inr ⟨j, hlt, rfl, hmj.trans he⟩⟩, rfl⟩
      · have hb : (mj.toList == s.toList) = false := by rw [str_beq]; simp [he]
        go_wp2_with fail
        go_round
        case rel =>
          refine ⟨j + 1, by omega, by go_num, fun q hq h => ?_⟩
          rcases Nat.lt_succ_iff_lt_or_eq.1 h with c | rfl
          · exact hno q hq c
          · rw [hmj]; exact he
        case measure => simp [intOf]; omega
    · obtain rfl : j = ms.length := by omega
      have hlt' : ¬ (ms.length : Int) < (ms.length : Int) := by omega
      go_wp2_with fail
      go_ret
      refine ⟨⟨_, rfl, .inl ⟨rfl, fun hm => ?_⟩⟩, rfl⟩
      obtain ⟨q, hq, e⟩ := List.getElem_of_mem hm
      exact hno.out q hq hq e

theorem Ybad.info9 : (Ybad.prog.info? 9).map (fun i => (i.zero, i.size, i.bytes)) = some (some (.string ⟨#[]⟩), 1, 16) := by kernel_rfl
theorem one_new (W : World) (x : Value) (t : TypeId) (b : Nat) (hb : b = W.heap.size) : ∀ j u, [x][j]? = some u → (W.alloc (.cells #[x] t)).cell? ((⟨b, 0, none⟩ : Addr).add j) = some u := by
  subst hb
  exact cell_one_new W x t
theorem one_cell' (v : Value) (h : v.oneCell' = true) : ∀ u ∈ [v], u.oneCell' = true := by
  intro u hu
  obtain rfl := List.mem_singleton.1 hu
  exact h
theorem ownsRow_slice {w : World} {N n : Nat} {e : TypeId} {v : Value} {xs : List Value} (h : w.ownsRow N e 1 v n xs) : ∃ a c, v = .slice a n c := by
  rcases h.2 with ⟨rfl, rfl⟩ | ⟨g, cap, cur, rfl, _⟩
  · exact ⟨none, 0, rfl⟩
  · exact ⟨_, cap, rfl⟩

/-- The model without its place j, as far as place q. -/
def gone (ms : List ByteArray) (j q : Nat) : List ByteArray := (ms.take q).eraseIdx j
theorem gone_keep {ms : List ByteArray} {j q : Nat} (h : q < ms.length) (hne : q ≠ j) : gone ms j (q + 1) = gone ms j q ++ [ms[q]] := by
  unfold gone
  have hl : (ms.take q).length = q := by simp; omega
  rw [List.take_succ_eq_append_getElem h]
  by_cases hj : j < q
  · rw [List.eraseIdx_append_of_lt_length (by omega)]
  · rw [List.eraseIdx_append_of_length_le (by omega), hl]
    have e1 : ([ms[q]] : List ByteArray).eraseIdx (j - q) = [ms[q]] := List.eraseIdx_of_length_le (by simp; omega)
    have e2 : (ms.take q).eraseIdx j = ms.take q := List.eraseIdx_of_length_le (by omega)
    rw [e1, e2]
theorem gone_skip {ms : List ByteArray} {j : Nat} (h : j < ms.length) : gone ms j (j + 1) = gone ms j j := by
  unfold gone
  have hl : (ms.take j).length = j := by simp; omega
  rw [List.take_succ_eq_append_getElem h, List.eraseIdx_append_of_length_le (by omega), hl, List.eraseIdx_of_length_le (l := ms.take j) (by omega)]
  simp
theorem gone_le (ms : List ByteArray) (j q : Nat) : (gone ms j q).length ≤ q := by
  unfold gone
  have := List.length_eraseIdx_le (ms.take q) j
  have h2 : (ms.take q).length ≤ q := by simp; omega
  omega

set_option maxHeartbeats 1000000 in
theorem remove_any (R : Nat → Nat) (N : Nat) (X : World) (v : Value) (ms : List ByteArray) (j : Nat) (hO : Own R 5 N X 9 v ms.length (strs ms)) (hN : N ≤ X.heap.size) (hlen : ms.length ≤ 256) (hj : j < ms.length) :
    Calls Ybad.prog 7 #[v, .int .i64 (j : Int)] X fun e w' => ∃ v' R', e = .returned v' ∧ Step R R' [6] X w' ∧ Own R' 5 N w' 9 v' (ms.eraseIdx j).length (strs (ms.eraseIdx j)) := by
  obtain ⟨i9, hi9, hz9, hs9, hb9⟩ := info_parts Ybad.info9
  obtain ⟨g, cap, rfl, hc⟩ := hO.some_at (by omega)
  have hmk0 : ∀ W : World, (Instr.makeSlice 42 (.int .i64 0) (.int .i64 (ms.length : Int))).run Ybad.prog W = .ok (.slice (some ⟨W.heap.size, 0, none⟩) 0 ms.length) (W.alloc (.cells (madeCells #[.string ⟨#[]⟩] ms.length) 9)) := fun W => by
    have := run_make (P := Ybad.prog) W 42 9 i9 (.string ⟨#[]⟩) Ybad.underlying42 hi9 hz9 .i64 .i64 0 ms.length (by omega) (by omega) (by rw [hb9]; omega) (by omega)
    simpa [hs9, Value.cells] using this
  have hst : Step R (upd R X.heap.size 6) [6] X (X.alloc (.cells (madeCells #[.string ⟨#[]⟩] ms.length) 9)) := (Step.refl R [6] X).alloc _ 6
  have hO0 : Own (upd R X.heap.size 6) 6 N (X.alloc (.cells (madeCells #[.string ⟨#[]⟩] ms.length) 9)) 9 (.slice (some ⟨X.heap.size, 0, none⟩) 0 ms.length) 0 (strs []) :=
    ⟨World.ownsRow_made X (madeCells #[.string ⟨#[]⟩] ms.length) ms.length hN (by unfold maxLen; omega) (by rw [size_madeCells]; omega), fun b hb => by
      simp [Value.ownBlock] at hb
      subst hb
      exact upd_same _ _ _⟩
  have HC : Hid (∀ i, i < ms.length → X.cell? ⟨g, i, none⟩ = (strs ms)[i]?) := hc
  clear hc
  go_enter Ybad.func7, Ybad.ntmps7
  go_wp2_with fail
  go_loopw [5, 6] (fun v' i wr => ∃ q : Nat, q ≤ ms.length ∧ i = .int .i64 q ∧ ∃ R', Step R R' [6] X wr ∧ Own R' 6 N wr 9 v' (gone ms j q).length (strs (gone ms j q))) (fun _ i _ => ms.length - (intOf i).toNat)
  case atStart => exact ⟨0, Nat.zero_le _, rfl, _, hst, by simpa [gone] using hO0⟩
  case round =>
    obtain ⟨q, hq, rfl, R', s', hO'⟩ := hrel
    have hgl := gone_le ms j q
    by_cases hlt : q < ms.length
    · have hlt' : (q : Int) < (ms.length : Int) := by omega
      have cq : wr.cell? ⟨g, q, none⟩ = some (.string ms[q]) := by
        have h5 := hO.step s' (by simp)
        obtain ⟨g', cap', hv, hc⟩ := h5.some_at (by omega)
        simp only [Value.slice.injEq, true_and, Option.some.injEq, Addr.mk.injEq, and_true] at hv
        obtain ⟨rfl, _⟩ := hv
        rw [hc q hlt, strs_at hlt]
      have hws := s'.size
      generalize hmq : ms[q] = mq at cq
      by_cases hne : q = j
      · subst hne
        go_wp2_with fail
        go_roundw
        case rel => exact ⟨q + 1, by omega, by go_num, R', s', by rw [gone_skip hlt]; exact hO'⟩
        case measure => simp [intOf]; omega
      · have hne' : ¬ (q : Int) = (j : Int) := by omega
        go_wp2_with (first | (at_builtin; refine wpList_append_own_at _ rfl _ _ 42 rfl N 9 i9 (.string ⟨#[]⟩) 1 16 Ybad.underlying42 hi9 hz9 hs9 hb9 rfl (by decide) _ _ _ rfl (hO'.1.alloc _) _ 1 1 [.string mq] rfl rfl ?c1 (one_cell' _ rfl) ?c3 ?c4 ?c5 ?_))
        case c1 => exact one_new _ _ _ _ (by first | rfl | simp)
        case c3 => unfold maxLen; omega
        case c4 => omega
        case c5 => simp; omega
        intro v' w1 hown' hgrow _ hat
        obtain ⟨R3, s3, hO3⟩ := hO'.appended (S := [6]) (by simp) hown' hgrow (by simpa using hat)
        have e1 : gone ms j (q + 1) = gone ms j q ++ [mq] := by rw [gone_keep hlt hne, hmq]
        have HN : Hid (Step R R3 [6] X w1 ∧ Own R3 6 N w1 9 v' (gone ms j (q + 1)).length (strs (gone ms j (q + 1)))) := ⟨s'.trans s3, by rw [e1]; simpa [strs] using hO3⟩
        clear hown' hgrow hat hO' s' hO3 s3
        go_wp2_with fail
        go_roundw
        case rel => exact ⟨q + 1, by omega, by go_num, R3, HN.out⟩
        case measure => simp [intOf]; omega
    · obtain rfl : q = ms.length := by omega
      have hlt' : ¬ (ms.length : Int) < (ms.length : Int) := by omega
      have e1 : gone ms j ms.length = ms.eraseIdx j := by unfold gone; rw [List.take_length]
      rw [e1] at hO'
      have ht := hO'.tag (S := [6]) (q' := 5) (by simp)
      go_wp2_with fail
      go_ret
      exact ⟨_, rfl, _, s'.tagged 5, ht⟩
end Go.Proofs.YbulkbeiaDoor
