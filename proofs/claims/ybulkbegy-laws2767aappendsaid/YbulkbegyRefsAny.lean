/-
  'appendRefs' (function 9), at no entry too.
-/
import Derived.Test.YbulkbegyRefs
namespace Go.Proofs.Ybulkbegy
open Go.RowKit
set_option linter.unusedVariables false
set_option linter.unusedSimpArgs false

theorem refs_any (R : Nat → Nat) (N : Nat) (X : World) (bb : Nat) (es : List Ent) (p : Nat) (ps : List Value) (vL vB : Value) (hlen : es.length ≤ 256) (hp : p ≤ 3) (hN : N ≤ X.heap.size)
    (hb : Im R 7 X bb (nodeObj vB)) (hB : Own R 6 N X 28 vB es.length (es.map wdef)) (hL : Own R 1 N X 27 vL p ps) (hes : ∀ e ∈ es, EntOk R N X e) :
    Calls Yba.prog 9 #[vL, .iface 29 (.pointer (some ⟨bb, 0, none⟩))] X fun e w' => ∃ v, e = .returned v ∧ RefRel R N X es p ps es.length v w' := by
  by_cases hpos : 0 < es.length
  · exact refs_pos R N X bb es p ps vL vB hpos hlen hp hN hb hB hL hes
  · have h0 : es.length = 0 := by omega
    rw [h0] at hB ⊢
    obtain ⟨a, cap, rfl⟩ := hB.slice_len
    have c3 : X.cell? ⟨bb, 3, none⟩ = some (.slice a 0 cap) := by rw [hb.cell]; rfl
    have ta := as29_29
    have HF : Hid (RefRel R N X es p ps 0 vL X) := ⟨[], R, rfl, Step.refl _ _ _, by simpa using hL, fun t ht => by cases ht⟩
    clear hb hB hL hes
    go_enter Yba.func9, Yba.ntmps9
    go_wp2_with fail
    go_loop [0, 28] (fun v i => v = vL ∧ i = .int .i64 0) (fun _ _ => 0)
    case atStart => exact ⟨rfl, rfl⟩
    case round =>
      obtain ⟨rfl, rfl⟩ := hrel
      go_wp2_with fail
      go_ret
      exact ⟨_, rfl, HF.out⟩
end Go.Proofs.Ybulkbegy
