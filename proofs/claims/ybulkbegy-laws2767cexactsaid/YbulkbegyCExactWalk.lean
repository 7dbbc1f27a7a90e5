/-
  'LawS2767CExact' (function 5) walked: it returns true.
-/
import Derived.Test.YbulkbegyFile
import Derived.Test.YbulkbegyBefore
import Derived.Test.YbulkbegyPtrMap
import Derived.ChangeMaps5
namespace Go.Proofs.Ybulkbegy
open Go.RowKit
open Go.ChangeMaps (setBlock heap_setBlock_same heap_setBlock_other)

theorem Yba.info4 : (Yba.prog.info? 4).map (fun i => (i.zero, i.size, i.bytes)) = some (some (.bool false), 1, 1) := by kernel_rfl

theorem Yba.info97 : (Yba.prog.info? 97).map (fun i => i.size) = some 3 := by kernel_rfl

/-- The marks as the law lays them into its own slice. -/
def markAt (len1 : Nat) (bs : Nat → Bool) (i : Nat) : Bool := if i < len1 then bs i else false

/-- What holds at the head of round k of the loop that lays the marks. -/
def MarkRel (w1 : World) (n len1 : Nat) (bs : Nat → Bool) (k : Nat) (wr : World) : Prop :=
  wr.heap.size = w1.heap.size + 1 ∧ Below w1.heap.size w1 wr ∧ wr.rowIs w1.heap.size 4 n (fun i => .bool (if i < k then markAt len1 bs i else false))

theorem mark_round {w1 wr : World} {n len1 k : Nat} {bs : Nat → Bool} (h : MarkRel w1 n len1 bs k wr) (hk : k < len1) : MarkRel w1 n len1 bs (k + 1) (wr.setCell ⟨w1.heap.size, k, none⟩ (.bool (bs k))) := by
  obtain ⟨h1, h2, h3⟩ := h
  refine ⟨by simpa [World.setCell] using h1, h2.setCell (Nat.le_refl _) _, (h3.set k _).congr fun i hi => ?_⟩
  by_cases e : i = k
  · subst e; simp [markAt, hk]
  · rw [if_neg e]
    by_cases e2 : i < k
    · rw [if_pos e2, if_pos (by omega)]
    · rw [if_neg e2, if_neg (by omega)]

theorem mark_past {w1 wr : World} {n len1 k : Nat} {bs : Nat → Bool} (h : MarkRel w1 n len1 bs k wr) (hk : ¬ k < len1) : MarkRel w1 n len1 bs (k + 1) wr := by
  obtain ⟨h1, h2, h3⟩ := h
  refine ⟨h1, h2, h3.congr fun i hi => ?_⟩
  by_cases e2 : i < k
  · rw [if_pos e2, if_pos (by omega)]
  · rw [if_neg e2]
    by_cases e : i = k
    · subst e; simp [markAt, hk]
    · rw [if_neg (by omega)]

/-- All that 'before' asks of the world in which the law calls it. -/
structure Ready (w4 : World) (pb cb fb r gb wb n s : Nat) (K : Nat → Nat) (zs : Nat → Int) (m : Nat → Bool) (fin : Int) (w5 : World) : Prop where
  hp : w5.cell? ⟨pb, 4, none⟩ = some (.map (some r))
  hlk : ∀ k, (Instr.lookup 78 (.map (some r)) (.pointer (some ⟨fb, 0, none⟩)) false).run Yba.prog (w5.drewN k) = .ok (.slice (some ⟨wb, 0, none⟩) n n) (w5.drewN k)
  hf : w5.cell? ⟨fb, 2, none⟩ = some (.slice (some ⟨gb, 0, none⟩) n n)
  hg : ∀ i, i < n → w5.cell? ⟨gb, i, none⟩ = some (.pointer (some ⟨K i, 0, none⟩))
  hK : ∀ i, i < n → w5.cell? ⟨K i, 2, none⟩ = some (.int .i64 (zs i))
  hw : ∀ i, i < n → w5.cell? ⟨wb, i, none⟩ = some (.bool (m i))
  hc0 : w5.cell? ⟨cb, 0, none⟩ = some (.pointer (some ⟨fb, 0, none⟩))
  hc1 : w5.cell? ⟨cb, 1, none⟩ = some (.int .i64 s)
  hc2 : w5.cell? ⟨cb, 2, none⟩ = some (.int .i64 fin)
  hz1 : w5.frozen? ⟨cb, 1, none⟩ = false
  lgb : gb < cb
  lwb : wb < cb
  lK : ∀ i, i < n → K i < cb
  lcb : cb = w4.heap.size

theorem ready {w w1 wr w3 w4 : World} {n len1 s : Nat} {zs : Nat → Int} {bs : Nat → Bool} {fin : Int}
    (hbl1 : Below w.heap.size w w1) (hs1 : w1.heap.size = w.heap.size + 2 + n)
    (f2 : w1.cell? ⟨w.heap.size, 2, none⟩ = some (.slice (some ⟨w.heap.size + 1, 0, none⟩) n n))
    (fg : ∀ i, i < n → w1.cell? ⟨w.heap.size + 1, i, none⟩ = some (.pointer (some ⟨w.heap.size + 2 + i, 0, none⟩)))
    (fK : ∀ i, i < n → w1.cell? ⟨w.heap.size + 2 + i, 2, none⟩ = some (.int .i64 (zs i)))
    (HR : MarkRel w1 n len1 bs n wr) (hb3 : Below wr.heap.size wr w3) (hs3 : w3.heap.size = wr.heap.size + 4)
    (p4 : w3.cell? ⟨wr.heap.size + 3, 4, none⟩ = some (.map (some (wr.heap.size + 1))))
    (m4 : w4.heap[wr.heap.size + 1]? = some (.map #[⟨.pointer (some ⟨w.heap.size, 0, none⟩), .slice (some ⟨w1.heap.size, 0, none⟩) n n, 0⟩] 1))
    (s4 : w4.heap.size = w3.heap.size) (k4 : ∀ i, i ≠ wr.heap.size + 1 → w4.heap[i]? = w3.heap[i]?) (b4 : Below (wr.heap.size + 1) w3 w4) :
    Below w.heap.size w (w4.alloc (.cells #[.pointer (some ⟨w.heap.size, 0, none⟩), .int .i64 (s : Int), .int .i64 fin] 84)) ∧
    Ready w4 (wr.heap.size + 3) w4.heap.size w.heap.size (wr.heap.size + 1) (w.heap.size + 1) w1.heap.size n s (fun i => w.heap.size + 2 + i) zs (markAt len1 bs) fin
      (w4.alloc (.cells #[.pointer (some ⟨w.heap.size, 0, none⟩), .int .i64 (s : Int), .int .i64 fin] 84)) := by
  obtain ⟨hsr, hbr, hrow⟩ := HR
  -- a cell below the marks' block reads as in w1; one of the marks' block as in wr
  have old : ∀ b o, b < w1.heap.size → (w4.alloc (.cells #[.pointer (some ⟨w.heap.size, 0, none⟩), .int .i64 (s : Int), .int .i64 fin] 84)).cell? ⟨b, o, none⟩ = w1.cell? ⟨b, o, none⟩ := fun b o hb => by
    rw [World.cell?_alloc_past _ _ _ (by omega)]
    exact (b4.cell (p := ⟨b, o, none⟩) (by show b < _; omega)).trans ((hb3.cell (p := ⟨b, o, none⟩) (by show b < _; omega)).trans (hbr.cell (p := ⟨b, o, none⟩) hb))
  have mid : ∀ b o, b < wr.heap.size → (w4.alloc (.cells #[.pointer (some ⟨w.heap.size, 0, none⟩), .int .i64 (s : Int), .int .i64 fin] 84)).cell? ⟨b, o, none⟩ = wr.cell? ⟨b, o, none⟩ := fun b o hb => by
    rw [World.cell?_alloc_past _ _ _ (by omega)]
    exact (b4.cell (p := ⟨b, o, none⟩) (by show b < _; omega)).trans (hb3.cell (p := ⟨b, o, none⟩) (by show b < _; omega))
  obtain ⟨j, hj, _⟩ := Option.map_eq_some_iff.1 Yba.info97
  refine ⟨?_, ⟨?_, ?_, ?_, ?_, ?_, ?_, ?_, ?_, ?_, ?_, by omega, by omega, fun i hi => by omega, rfl⟩⟩
  · exact (((hbl1.trans (hbr.mono (by omega))).trans (hb3.mono (by omega))).trans (b4.mono (by omega))).alloc (by omega) _
  · rw [World.cell?_alloc_past _ _ _ (by omega)]
    exact (World.cell?_of_block (w := w3) (a := ⟨wr.heap.size + 3, 4, none⟩) (k4 _ (by simp))).trans p4
  · intro k
    refine run_look_one (P := Yba.prog) Yba.underlying78 Yba.underlying47 hj ⟨w.heap.size, 0, none⟩ _ ?_
    show (w4.alloc _).heap[_]? = _
    rw [Below.heap_alloc _ _ _ (by omega)]
    exact m4
  · exact (old _ _ (by omega)).trans f2
  · exact fun i hi => (old _ _ (by omega)).trans (fg i hi)
  · exact fun i hi => (old _ _ (by omega)).trans (fK i hi)
  · exact fun i hi => (mid _ _ (by omega)).trans ((hrow.cell hi).trans (by rw [if_pos hi]))
  · rw [World.cell?_alloc_at _ _ _ _ rfl]; rfl
  · rw [World.cell?_alloc_at _ _ _ _ rfl]; rfl
  · rw [World.cell?_alloc_at _ _ _ _ rfl]; rfl
  · exact World.frozen?_alloc_at _ _ _ _ rfl

set_option maxHeartbeats 2000000 in
theorem law_pos (w : World) (b0 o0 n cap0 : Nat) (zs : Nat → Int) (a1 : Option Addr) (b1 o1 len1 cap1 : Nat) (bs : Nat → Bool) (nx fin off : Int)
    (hn : n ≤ 1024) (hpos : 0 < n) (hb0 : b0 < w.heap.size) (hc : ∀ i, i < n → w.cell? ⟨b0, o0 + i, none⟩ = some (.int .i64 (zs i)))
    (hl1 : len1 ≤ 9223372036854775807) (ha1 : len1 = 0 ∨ a1 = some ⟨b1, o1, none⟩) (hb1 : 0 < len1 → b1 < w.heap.size) (hcb : ∀ i, i < len1 → w.cell? ⟨b1, o1 + i, none⟩ = some (.bool (bs i)))
    (hx0 : 0 ≤ nx) (hx1 : nx ≤ 65535) :
    Calls Yba.prog 5 #[.slice (some ⟨b0, o0, none⟩) n cap0, .slice a1 len1 cap1, .int .u16 nx, .int .i64 fin, .int .i64 off] w fun e w' => e = .returned (.bool true) ∧ Below w.heap.size w w' := by
  have hmk := run_make_row' (P := Yba.prog) 67 4 (.bool false) 1 Yba.underlying67 Yba.info4 rfl .i64 .i64 n (by omega) (by omega)
  have hle : ¬ (1024 : Int) < (n : Int) := by omega
  obtain ⟨s, hsx⟩ : ∃ s : Nat, nx % ((n : Int) + 1) = (s : Int) := ⟨(nx % ((n : Int) + 1)).toNat, by have := Int.emod_nonneg nx (b := (n : Int) + 1) (by omega); omega⟩
  have hsn : s ≤ n := by have := Int.emod_lt_of_pos nx (b := (n : Int) + 1) (by omega); omega
  obtain ⟨inf, hinf, _⟩ := Option.map_eq_some_iff.1 Yba.info97
  have hpe := fun W => run_eql_ptr_same (P := Yba.prog) W ⟨w.heap.size, 0, none⟩ Yba.underlying47 hinf
  clear hinf
  have ha1' : Hid (len1 = 0) ∨ a1 = some ⟨b1, o1, none⟩ := ha1
  clear ha1
  rcases ha1' with HZ | rfl
  all_goals
    go_enter Yba.func5, Yba.ntmps5
    go_wp2_with fail
    refine (cfile_any w b0 o0 n cap0 zs hn hpos hb0 hc).mono ?_
    rintro e w1 ⟨rfl, hbl1, hs1, f2, fg, fK⟩
    have H1 : Hid (w1.heap.size = w.heap.size + 2 + n) := hs1
    clear hs1
    go_wp2_with fail
    go_loopw [14] (fun i wr => ∃ k : Nat, k ≤ n ∧ i = .int .i64 k ∧ MarkRel w1 n len1 bs k wr) (fun i _ => n - (intOf i).toNat)
    case atStart =>
      exact ⟨0, Nat.zero_le _, rfl, by simp, (Below.refl _ _).alloc (Nat.le_refl _) _, (World.rowIs_made w1 (.bool false) n 4).congr fun i hi => by simp⟩
    case round =>
      obtain ⟨k, hk, rfl, hrel⟩ := hrel
      by_cases hlt : k < n
      · have hlt' : (k : Int) < (n : Int) := by omega
        by_cases hk1 : k < len1
        · first
            | (have hz := HZ.out; omega)
            | (have q0 : wr.cell? ⟨b1, o1 + k, none⟩ = some (.bool (bs k)) := (hrel.2.1.cell (p := ⟨b1, o1 + k, none⟩) (by have := hb1 (by omega); have := H1.out; show b1 < _; omega)).trans ((hbl1.cell (p := ⟨b1, o1 + k, none⟩) (hb1 (by omega))).trans (hcb k hk1))
               have q1 := hrel.2.2.cell hlt
               have q2 := hrel.2.2.frozen k
               have HR : Hid (MarkRel w1 n len1 bs k wr) := hrel
               clear hrel
               have hk1' : (k : Int) < (len1 : Int) := by omega
               go_wp2
               go_roundw
               case rel => exact ⟨k + 1, by omega, by go_num, mark_round HR.out hk1⟩
               case measure => simp [intOf]; omega)
        · have HR : Hid (MarkRel w1 n len1 bs k wr) := hrel
          clear hrel
          go_wp2
          go_roundw
          case rel => exact ⟨k + 1, by omega, by go_num, mark_past HR.out hk1⟩
          case measure => simp [intOf]; omega
      · obtain rfl : k = n := by omega
        have hlt' : ¬ (k : Int) < (k : Int) := by omega
        have HR : Hid (MarkRel w1 k len1 bs k wr) := hrel
        clear hrel
        go_wp2_with fail
        refine (newPrinter_nil wr).mono ?_
        rintro e w3 ⟨rfl, hb3, hs3, p4, pm⟩
        obtain ⟨w4, hst, m4, s4, k4, b4⟩ := store_first (P := Yba.prog) (t := 78) Yba.underlying78 Yba.underlying47 pm ⟨w.heap.size, 0, none⟩ (.slice (some ⟨w1.heap.size, 0, none⟩) k k)
        have R := ready (s := s) (fin := fin) hbl1 H1.out f2 fg fK HR.out hb3 hs3 p4 m4 s4 k4 b4
        clear hs3 s4 m4 k4 f2 fg fK
        go_wp2_with fail
        refine (before_any _ (wr.heap.size + 3) w4.heap.size w.heap.size (wr.heap.size + 1) (w.heap.size + 1) w1.heap.size k s k (fun i => w.heap.size + 2 + i) zs (markAt len1 bs) off fin hn hsn hpos R.2.hp R.2.hlk R.2.hf R.2.hg R.2.hK R.2.hw R.2.hc0 R.2.hc1 R.2.hc2 R.2.hz1 R.2.lgb R.2.lwb R.2.lK).mono ?_
        rintro e w5 ⟨j, hj, rfl, b5, c0, c1, c2⟩
        have hbw : Below w.heap.size w w5 := R.1.trans (b5.mono (by have := R.2.lgb; omega))
        have hq : ∀ i, i < k → w5.cell? ⟨w1.heap.size, i, none⟩ = some (.bool (markAt len1 bs i)) := fun i hi => (b5.cell (p := ⟨w1.heap.size, i, none⟩) R.2.lwb).trans (R.2.hw i hi)
        have ho : ∀ i, i < k → w5.cell? ⟨b0, o0 + i, none⟩ = some (.int .i64 (zs i)) := fun i hi => (hbw.cell (p := ⟨b0, o0 + i, none⟩) hb0).trans (hc i hi)
        clear R hst b4 b5 hc hcb hbl1 hb3 p4 pm hmk
        go_wp2_with fail
        go_loop [19] (fun v => ∃ i : Nat, s ≤ i ∧ i ≤ k ∧ v = .int .i64 i ∧ Hid (∀ x, s ≤ x → x < i → markAt len1 bs x = true)) (fun v => k - (intOf v).toNat)
        case atStart => exact ⟨s, Nat.le_refl _, hsn, rfl, fun x h1 h2 => by omega⟩
        case round =>
          obtain ⟨i, h1, h2, rfl, h3⟩ := hrel
          by_cases hi : i < k
          · have hi' : (i : Int) < (k : Int) := by omega
            have q0 := hq i hi
            have q1 := ho i hi
            cases hm : markAt len1 bs i with
            | true =>
              rw [hm] at q0
              have HM : Hid (markAt len1 bs i = true) := hm
              clear hm hq ho hj
              go_wp2
              go_round
              case rel =>
                refine ⟨i + 1, by omega, by omega, by go_num, fun x a b => ?_⟩
                rcases Nat.lt_succ_iff_lt_or_eq.1 b with c | rfl
                · exact h3 x a c
                · exact HM.out
              case measure => simp [intOf]; omega
            | false =>
              rw [hm] at q0
              obtain rfl : i = j := Stops.one ⟨h1, h2, h3, fun _ => hm⟩ hj
              clear hm hq ho hj
              by_cases hff : fin < off
              · by_cases hz : zs i < fin
                · have hans : answer zs k i off fin = (i : Int) := ans_yes hi (by rw [if_pos hff]; exact hz)
                  go_wp2
                  go_ret
                  exact ⟨rfl, hbw⟩
                · have hans : answer zs k i off fin = -1 := ans_no (by rw [if_pos hff]; omega)
                  go_wp2
                  go_ret
                  exact ⟨rfl, hbw⟩
              · by_cases hz : zs i < off
                · have hans : answer zs k i off fin = (i : Int) := ans_yes hi (by rw [if_neg hff]; exact hz)
                  go_wp2
                  go_ret
                  exact ⟨rfl, hbw⟩
                · have hans : answer zs k i off fin = -1 := ans_no (by rw [if_neg hff]; omega)
                  go_wp2
                  go_ret
                  exact ⟨rfl, hbw⟩
          · have hi' : ¬ (i : Int) < (k : Int) := by omega
            obtain rfl : i = j := Stops.one ⟨h1, h2, h3, fun c => absurd c hi⟩ hj
            have hans : answer zs k i off fin = -1 := ans_out hi
            clear hq ho hj
            go_wp2
            all_goals
              go_ret
              exact ⟨rfl, hbw⟩
end Go.Proofs.Ybulkbegy
