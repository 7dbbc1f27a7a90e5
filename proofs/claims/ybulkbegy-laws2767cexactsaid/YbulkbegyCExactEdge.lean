/-
  'LawS2767CExact' (function 5) at no offset, and at more than 1024.
-/
import Derived.Test.YbulkbegyCExactWalk
namespace Go.Proofs.Ybulkbegy
open Go.RowKit

theorem law_big (w : World) (a0 : Option Addr) (n cap0 : Nat) (v1 : Value) (nx fin off : Int) (hn : 1024 < n) :
    Calls Yba.prog 5 #[.slice a0 n cap0, v1, .int .u16 nx, .int .i64 fin, .int .i64 off] w fun e w' => e = .returned (.bool true) ∧ Below w.heap.size w w' := by
  have hle : (1024 : Int) < (n : Int) := by omega
  go_enter Yba.func5, Yba.ntmps5
  go_wp2
  go_ret
  exact ⟨rfl, Below.refl _ _⟩

/-- All that 'before' asks where there is no comment. -/
theorem ready0 {w w1 w2 w3 w4 : World} {fin : Int} (wv : Value)
    (hbl1 : Below w.heap.size w w1) (hs1 : w1.heap.size = w.heap.size + 1)
    (f2 : w1.cell? ⟨w.heap.size, 2, none⟩ = some (.slice none 0 0))
    (hb2 : Below w1.heap.size w1 w2) (hb3 : Below w2.heap.size w2 w3) (hs3 : w3.heap.size = w2.heap.size + 4)
    (p4 : w3.cell? ⟨w2.heap.size + 3, 4, none⟩ = some (.map (some (w2.heap.size + 1))))
    (m4 : w4.heap[w2.heap.size + 1]? = some (.map #[⟨.pointer (some ⟨w.heap.size, 0, none⟩), wv, 0⟩] 1))
    (s4 : w4.heap.size = w3.heap.size) (k4 : ∀ i, i ≠ w2.heap.size + 1 → w4.heap[i]? = w3.heap[i]?) (b4 : Below (w2.heap.size + 1) w3 w4) :
    Below w.heap.size w (w4.alloc (.cells #[.pointer (some ⟨w.heap.size, 0, none⟩), .int .i64 0, .int .i64 fin] 84)) ∧ w.heap.size ≤ w4.heap.size ∧
    (w4.alloc (.cells #[.pointer (some ⟨w.heap.size, 0, none⟩), .int .i64 0, .int .i64 fin] 84)).cell? ⟨w2.heap.size + 3, 4, none⟩ = some (.map (some (w2.heap.size + 1))) ∧
    (∀ k, (Instr.lookup 78 (.map (some (w2.heap.size + 1))) (.pointer (some ⟨w.heap.size, 0, none⟩)) false).run Yba.prog ((w4.alloc (.cells #[.pointer (some ⟨w.heap.size, 0, none⟩), .int .i64 0, .int .i64 fin] 84)).drewN k) =
      .ok wv ((w4.alloc (.cells #[.pointer (some ⟨w.heap.size, 0, none⟩), .int .i64 0, .int .i64 fin] 84)).drewN k)) ∧
    (w4.alloc (.cells #[.pointer (some ⟨w.heap.size, 0, none⟩), .int .i64 0, .int .i64 fin] 84)).cell? ⟨w.heap.size, 2, none⟩ = some (.slice none 0 0) := by
  have hz2 := hb2.size
  obtain ⟨j, hj, _⟩ := Option.map_eq_some_iff.1 Yba.info97
  refine ⟨?_, by omega, ?_, ?_, ?_⟩
  · exact (((hbl1.trans (hb2.mono (by omega))).trans (hb3.mono (by omega))).trans (b4.mono (by omega))).alloc (by omega) _
  · rw [World.cell?_alloc_past _ _ _ (by omega)]
    exact (World.cell?_of_block (w := w3) (a := ⟨w2.heap.size + 3, 4, none⟩) (k4 _ (by simp))).trans p4
  · intro k
    refine run_look_one (P := Yba.prog) Yba.underlying78 Yba.underlying47 hj ⟨w.heap.size, 0, none⟩ _ ?_
    show (w4.alloc _).heap[_]? = _
    rw [Below.heap_alloc _ _ _ (by omega)]
    exact m4
  · rw [World.cell?_alloc_past _ _ _ (by omega)]
    exact (b4.cell (p := ⟨w.heap.size, 2, none⟩) (by show w.heap.size < _; omega)).trans ((hb3.cell (p := ⟨w.heap.size, 2, none⟩) (by show w.heap.size < _; omega)).trans ((hb2.cell (p := ⟨w.heap.size, 2, none⟩) (by show w.heap.size < _; omega)).trans f2))

set_option maxHeartbeats 2000000 in
theorem law_zero (w : World) (a0 : Option Addr) (cap0 : Nat) (v1 : Value) (nx fin off : Int) (hx0 : 0 ≤ nx) (hx1 : nx ≤ 65535) :
    Calls Yba.prog 5 #[.slice a0 0 cap0, v1, .int .u16 nx, .int .i64 fin, .int .i64 off] w fun e w' => e = .returned (.bool true) ∧ Below w.heap.size w w' := by
  have hmk : ∀ w, (Instr.makeSlice 67 (.int .i64 0) (.int .i64 0)).run Yba.prog w = .ok (.slice (some ⟨w.heap.size, 0, none⟩) 0 0) (w.alloc (.cells #[] 4)) := fun _ => by kernel_rfl
  obtain ⟨inf, hinf, _⟩ := Option.map_eq_some_iff.1 Yba.info97
  have hpe := fun W => run_eql_ptr_same (P := Yba.prog) W ⟨w.heap.size, 0, none⟩ Yba.underlying47 hinf
  clear hinf
  go_enter Yba.func5, Yba.ntmps5
  go_wp2_with fail
  refine (cfile_zero w a0 cap0).mono ?_
  rintro e w1 ⟨rfl, hbl1, hs1, f2⟩
  have H1 : Hid (w1.heap.size = w.heap.size + 1) := hs1
  clear hs1
  go_wp2_with fail
  go_loop [14] (fun i => i = .int .i64 0) (fun _ => 0)
  case atStart => rfl
  case round =>
    subst hrel
    obtain ⟨w2, hw2⟩ : ∃ w2, w2 = w1.alloc (.cells #[] 4) := ⟨_, rfl⟩
    have hb2 : Below w1.heap.size w1 w2 := by rw [hw2]; exact (Below.refl _ _).alloc (Nat.le_refl _) _
    rw [← hw2]
    clear hw2
    go_wp2_with fail
    refine (newPrinter_nil w2).mono ?_
    rintro e w3 ⟨rfl, hb3, hs3, p4, pm⟩
    obtain ⟨w4, hst, m4, s4, k4, b4⟩ := store_first (P := Yba.prog) (t := 78) Yba.underlying78 Yba.underlying47 pm ⟨w.heap.size, 0, none⟩ (.slice (some ⟨w1.heap.size, 0, none⟩) 0 0)
    have R := ready0 (fin := fin) _ hbl1 H1.out f2 hb2 hb3 hs3 p4 m4 s4 k4 b4
    clear hs3 s4 m4 k4 f2
    go_wp2_with fail
    refine (before_zero _ (w2.heap.size + 3) w4.heap.size w.heap.size (w2.heap.size + 1) (.slice (some ⟨w1.heap.size, 0, none⟩) 0 0) off fin R.2.2.1 R.2.2.2.1 R.2.2.2.2 ?_ ?_ ?_).mono ?_
    · rw [World.cell?_alloc_at _ _ _ _ rfl]; rfl
    · rw [World.cell?_alloc_at _ _ _ _ rfl]; rfl
    · rw [World.cell?_alloc_at _ _ _ _ rfl]; rfl
    rintro e w5 ⟨rfl, b5, c0, c1, c2⟩
    have hbw : Below w.heap.size w w5 := R.1.trans (b5.mono R.2.1)
    clear R hst b4 b5 hbl1 hb3 p4 pm hmk hb2
    go_wp2_with fail
    go_loop [19] (fun i => i = .int .i64 0) (fun _ => 0)
    case atStart => rfl
    case round =>
      subst hrel
      go_wp2
      all_goals
        go_ret
        exact ⟨rfl, hbw⟩
end Go.Proofs.Ybulkbegy
