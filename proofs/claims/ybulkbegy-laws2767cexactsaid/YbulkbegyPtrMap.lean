/-
  A map keyed by pointers that the call itself makes: the first store, and a look-up of the one entry.
-/
import Derived.ChangeMaps4
import Derived.LaidEqlPtr
import Derived.MapKept
import Derived.ChangeMaps5
import Derived.Below
namespace Go.Proofs.Ybulkbegy
open Go.RowKit
open Go.ChangeMaps (setBlock heap_setBlock_same heap_setBlock_other)

theorem check_ptr {P : Program} {k x : TypeId} (n : Nat) (hk : P.underlying k = some (.pointer x)) (w : World) (a : Addr) : (Instr.checkKey false (n + 1) k (.pointer (some a))).run P w = .ok () w := by
  simp [Instr.checkKey, run_underlying hk]

theorem run_store_first {P : Program} {t k e x : TypeId} {r : Nat} {w : World} (ht : P.underlying t = some (.map k e)) (hk : P.underlying k = some (.pointer x)) (hb : w.heap[r]? = some (.map #[] 0)) (a : Addr) (v : Value) :
    (Instr.mapUpdate t (.map (some r)) (.pointer (some a)) v).run P w = .ok () (setBlock w r (.map #[⟨.pointer (some a), v, 0⟩] 1)) := by
  have hc : (Instr.checkKey false 10000 k (.pointer (some a))).run P w = .ok () w := by
    exact check_ptr 9999 hk w a
  have hf : (Instr.findKey k (.pointer (some a)) []).run P w = .ok none w := by
    simp [Instr.findKey, run_underlying hk, Instr.findNow]
  simp [Instr.mapUpdate, run_underlying ht, MapKept.run_getObj_map hb, hc, hf, MapKept.run_setObj_map _ hb, Result.andThen, setBlock]

/-- The same, the world behind it under a name. -/
theorem store_first {P : Program} {t k e x : TypeId} {r : Nat} {w : World} (ht : P.underlying t = some (.map k e)) (hk : P.underlying k = some (.pointer x)) (hb : w.heap[r]? = some (.map #[] 0)) (a : Addr) (v : Value) :
    ∃ w', (Instr.mapUpdate t (.map (some r)) (.pointer (some a)) v).run P w = .ok () w' ∧ w'.heap[r]? = some (.map #[⟨.pointer (some a), v, 0⟩] 1) ∧ w'.heap.size = w.heap.size ∧
      (∀ i, i ≠ r → w'.heap[i]? = w.heap[i]?) ∧ Below r w w' :=
  ⟨_, run_store_first ht hk hb a v, heap_setBlock_same hb _, by simp [setBlock], fun i hi => heap_setBlock_other hb _ hi,
    ⟨rfl, rfl, rfl, by simp [setBlock], fun i hi => heap_setBlock_other hb _ (Nat.ne_of_lt hi)⟩⟩

theorem run_look_one {P : Program} {t k e x : TypeId} {j : TypeInfo} {r : Nat} {w : World} (ht : P.underlying t = some (.map k e)) (hk : P.underlying k = some (.pointer x)) (hx : P.info? x = some j) (a : Addr) (v : Value)
    (hb : w.heap[r]? = some (.map #[⟨.pointer (some a), v, 0⟩] 1)) :
    (Instr.lookup t (.map (some r)) (.pointer (some a)) false).run P w = .ok v w := by
  have hc : (Instr.checkKey false 10000 k (.pointer (some a))).run P w = .ok () w := by
    exact check_ptr 9999 hk w a
  have heq : (Op.equal k (.pointer (some a)) (.pointer (some a))).run P w = .ok true w := by
    have h : ∀ d : Nat, (Op.equalIn (d + 1) k (.pointer (some a)) (.pointer (some a))).run P w = .ok true w := fun d => by
      simp [Op.equalIn, run_underlying hk, sizeOf, typeInfo, hx, run_sameAddr_same]
    simp [Op.equal, Op.maxDepth, h 9999]
  have hf : (Instr.findKey k (.pointer (some a)) [⟨.pointer (some a), v, 0⟩]).run P w = .ok (some (0, v)) w := by
    simp [Instr.findKey, run_underlying hk, Instr.findNow, Instr.sameNow, Instr.findAsking, heq]
  simp [Instr.lookup, run_underlying ht, MapKept.run_getObj_map hb, hc, hf, Result.andThen]
end Go.Proofs.Ybulkbegy
