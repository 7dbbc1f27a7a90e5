/-
  The contract of 'zzs2767cfile' (function 10): a file whose comments stand at the given offsets.
-/
import Derived.Test.YbulkbegyProg
import Derived.WalkKit
import Derived.WalkLawsBesides
import Derived.Outline
import Derived.Deep.LoopGhost
import Derived.Deep.OwnRows
import Derived.RegionTactic
import Derived.BigRegion
namespace Go.Proofs.Ybulkbegy
open Go.RowKit

theorem Yba.info98 : (Yba.prog.info? 98).map (fun i => (i.zero, i.size, i.bytes)) = some (some (.pointer none), 1, 8) := by kernel_rfl

/-- What holds at the head of round k. -/
def FileRel (w : World) (n : Nat) (zs : Nat → Int) (k : Nat) (wr : World) : Prop :=
  wr.heap.size = w.heap.size + 2 + k ∧ Below w.heap.size w wr ∧
  wr.cell? ⟨w.heap.size, 2, none⟩ = some (.slice (some ⟨w.heap.size + 1, 0, none⟩) n n) ∧
  wr.rowIs (w.heap.size + 1) 98 n (fun i => if i < k then .pointer (some ⟨w.heap.size + 2 + i, 0, none⟩) else .pointer none) ∧
  (∀ i, i < k → wr.cell? ⟨w.heap.size + 2 + i, 2, none⟩ = some (.int .i64 (zs i)))

theorem file_round {w wr : World} {n k : Nat} {zs : Nat → Int} (h : FileRel w n zs k wr) (c0 c1 c3 c4 : Value) :
    FileRel w n zs (k + 1) ((wr.setCell ⟨w.heap.size + 1, k, none⟩ (.pointer (some ⟨wr.heap.size, 0, none⟩))).alloc (.cells #[c0, c1, .int .i64 (zs k), c3, c4] 101)).drew := by
  obtain ⟨hsz, hbel, hc2, hrow, hcm⟩ := h
  have hs1 : (wr.setCell ⟨w.heap.size + 1, k, none⟩ (.pointer (some ⟨wr.heap.size, 0, none⟩))).heap.size = wr.heap.size := by simp [World.setCell]
  refine ⟨?_, ?_, ?_, ?_, ?_⟩
  · show ((wr.setCell _ _).alloc _).heap.size = _
    rw [World.size_alloc, hs1]; omega
  · exact ((hbel.setCell (by simp) _).alloc (by rw [hs1]; omega) _).drew
  · show ((wr.setCell _ _).alloc _).cell? _ = _
    rw [World.cell?_alloc_past _ _ _ (by rw [hs1]; omega), World.cell?_setCell_other _ _ _ _ (by simp)]
    exact hc2
  · have h1 := ((hrow.set k (.pointer (some ⟨wr.heap.size, 0, none⟩))).alloc (.cells #[c0, c1, .int .i64 (zs k), c3, c4] 101)).drew
    refine h1.congr fun i hi => ?_
    by_cases e : i = k
    · subst e; rw [if_pos rfl, if_pos (by omega), hsz]
    · rw [if_neg e]
      by_cases e2 : i < k
      · rw [if_pos e2, if_pos (by omega)]
      · rw [if_neg e2, if_neg (by omega)]
  · intro i hi
    show ((wr.setCell _ _).alloc _).cell? _ = _
    by_cases e : i = k
    · subst e
      rw [World.cell?_alloc_at _ _ _ _ (by rw [hs1, hsz])]
      rfl
    · rw [World.cell?_alloc_past _ _ _ (by rw [hs1]; omega), World.cell?_setCell_other _ _ _ _ (by simp)]
      exact hcm i (by omega)

set_option maxHeartbeats 1000000 in
theorem cfile_any (w : World) (b o n cap : Nat) (zs : Nat → Int) (hn : n ≤ 1024) (hpos : 0 < n) (hb : b < w.heap.size)
    (hc : ∀ i, i < n → w.cell? ⟨b, o + i, none⟩ = some (.int .i64 (zs i))) :
    Calls Yba.prog 10 #[.slice (some ⟨b, o, none⟩) n cap] w fun e w' =>
      e = .returned (.pointer (some ⟨w.heap.size, 0, none⟩)) ∧ Below w.heap.size w w' ∧ w'.heap.size = w.heap.size + 2 + n ∧
      w'.cell? ⟨w.heap.size, 2, none⟩ = some (.slice (some ⟨w.heap.size + 1, 0, none⟩) n n) ∧
      (∀ i, i < n → w'.cell? ⟨w.heap.size + 1, i, none⟩ = some (.pointer (some ⟨w.heap.size + 2 + i, 0, none⟩))) ∧
      (∀ i, i < n → w'.cell? ⟨w.heap.size + 2 + i, 2, none⟩ = some (.int .i64 (zs i))) := by
  have hmk := run_make_row' (P := Yba.prog) 95 98 (.pointer none) 8 Yba.underlying95 Yba.info98 rfl .i64 .i64 n (by omega) (by omega)
  have h0 : (0 : Int) < (n : Int) := by omega
  go_enter Yba.func10, Yba.ntmps10
  go_wp2
  go_loopw [5] (fun i wr => ∃ k : Nat, k ≤ n ∧ i = .int .i64 k ∧ FileRel w n zs k wr) (fun i _ => n - (intOf i).toNat)
  case atStart =>
    refine ⟨0, Nat.zero_le _, rfl, by simp, ((Below.refl _ _).alloc (Nat.le_refl _) _).alloc (by simp) _, by simp [go_sem], ?_, fun i hi => absurd hi (Nat.not_lt_zero _)⟩
    have := World.rowIs_made (w.alloc (.cells #[Value.pointer none, Value.slice none 0 0, Value.slice (some ⟨w.heap.size + 1, 0, none⟩) n n] 97)) (.pointer none) n 98
    simpa using this
  case round =>
    obtain ⟨k, hk, rfl, hrel⟩ := hrel
    have HR : Hid (FileRel w n zs k wr) := hrel
    obtain ⟨hsz, hbel, hc2, hrow, hcm⟩ := hrel
    by_cases hlt : k < n
    · have hlt' : (k : Int) < (n : Int) := by omega
      have q0 : wr.cell? ⟨b, o + k, none⟩ = some (.int .i64 (zs k)) := (hbel.cell (p := ⟨b, o + k, none⟩) hb).trans (hc k hlt)
      have q1 : wr.cell? ⟨w.heap.size + 1, k, none⟩ = some (.pointer none) := by have := hrow.cell hlt; simpa using this
      have q2 : wr.frozen? ⟨w.heap.size + 1, k, none⟩ = false := hrow.frozen k
      have l1 : w.heap.size + 1 < wr.heap.size := by omega
      have l0 : w.heap.size < wr.heap.size := by omega
      have lb : b < wr.heap.size := by omega
      have HS : Hid (wr.heap.size = w.heap.size + 2 + k) := hsz
      clear hsz
      go_wp2
      go_region
      go_wp2
      go_roundw
      case rel =>
        exact ⟨k + 1, by omega, by go_num, file_round HR.out _ _ _ _⟩
      case measure => simp [intOf]; omega
    · have hlt' : ¬ (k : Int) < (n : Int) := by omega
      obtain rfl : k = n := by omega
      go_wp2
      go_ret
      exact ⟨rfl, hbel, hsz, hc2, fun i hi => by have := hrow.cell hi; simpa [hi] using this, hcm⟩

theorem cfile_zero (w : World) (a : Option Addr) (cap : Nat) :
    Calls Yba.prog 10 #[.slice a 0 cap] w fun e w' =>
      e = .returned (.pointer (some ⟨w.heap.size, 0, none⟩)) ∧ Below w.heap.size w w' ∧ w'.heap.size = w.heap.size + 1 ∧
      w'.cell? ⟨w.heap.size, 2, none⟩ = some (.slice none 0 0) := by
  go_enter Yba.func10, Yba.ntmps10
  go_wp2
  go_ret
  exact ⟨rfl, (Below.refl _ _).alloc (Nat.le_refl _) _, by simp, by simp [go_sem]⟩

/-- 'newPrinter(nil)': four new blocks; the second is the map 'written'. -/
theorem newPrinter_nil (w : World) :
    Calls Yba.prog 11 #[.pointer none] w fun e w' =>
      e = .returned (.pointer (some ⟨w.heap.size + 3, 0, none⟩)) ∧ Below w.heap.size w w' ∧ w'.heap.size = w.heap.size + 4 ∧
      w'.cell? ⟨w.heap.size + 3, 4, none⟩ = some (.map (some (w.heap.size + 1))) ∧ w'.heap[w.heap.size + 1]? = some (.map #[] 0) := by
  have hmm := @run_makeMap Yba.prog
  go_enter Yba.func11, Yba.ntmps11
  go_wp2
  go_ret
  refine ⟨rfl, ((((Below.refl _ _).alloc (Nat.le_refl _) _).alloc (by simp) _).alloc (by simp; omega) _).alloc (by simp; omega) _, by simp, by simp [go_sem], ?_⟩
  rw [Below.heap_alloc _ _ _ (by simp), Below.heap_alloc _ _ _ (by simp)]
  have := Deep.blk_alloc_new (w.alloc (.cells #[.pointer none, .int .i64 0, .int .i64 0] 84)) (.map #[] 0)
  simpa using this
end Go.Proofs.Ybulkbegy
