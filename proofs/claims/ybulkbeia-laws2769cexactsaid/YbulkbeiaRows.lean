/-
  No cell of these rows narrows 'for every input' (looked for: loops, veiled, ifaces, maps, wideKeys, modest, calm, conditions, laid).
  DERIVED. THE GIVEN ROWS OF THIS SEAT. 2 by the template 'for every input the law returns true; each argument reads behind the call as it read before'; 0 by the template 'total and deterministic' (their statements: YbulkbeiaTotals.lean).
  GIVEN WITH THE SEED: the statements are not yours to turn. If you find one false, say at which input.
  Laid BY PROGRAM, IN A SANDBOX (cutbox-rows.mjs): the forced cells as the released guide's own fill.sh prints them over the translation f83764a1a6eaa756… (all of the seat's roots in one cut). By AI agents, Wed Nov 11 2026. No macro, syntax, notation, axiom, sorry.
-/
import Derived.Test.YbulkbeiaChecked
import GoSem.Claim
import GoSem.ClaimJoined
import GoSem.ClaimMapViews
import Derived.JoinedTies
import Derived.KernelRfl
namespace Go.Proofs.Ybulkbeia
/- THE CELL 'sum', in the pinned program and in every row, IS THE sha256 OF THE DUMP (.gsa) THAT YbulkbeiaProg.lean LOADS. Nothing in Lean hashes anything: it is a label: what it is worth is what the hold of that sum in a sandbox is worth. -/
noncomputable def Yba.pinned : Pinned := { name := "ybulkbeia", sum := "f83764a1a6eaa756c65f191238b1ed8bedfc4c1825e5aa10632b4abd48b07b64", checked := Yba.checked }
namespace Rows
def none {H : Type} : Left H := { results := [], args := [] }

/-- 'sipario.LawS2769CExact': WHATEVER THE INPUT: true; the input reads as it did. -/
def lawS2769CExactSpec : ChangeSpec := { name := "lawS2769CExact", fn := fun _ => fun
  | [d1, d2, d3, d4] => { results := [.lit (.bool true)], args := [d1, d2, d3, d4] }
  | _ => none }
def lawS2769CExactRow : OpenClaim := { program := "ybulkbeia", sum := "f83764a1a6eaa756c65f191238b1ed8bedfc4c1825e5aa10632b4abd48b07b64", func := "example.com/sipario/sipario.LawS2769CExact", spec := "lawS2769CExact", inPlace := ["sync/atomic.StoreUint64", "sync/atomic.StoreUint32", "sync/atomic.LoadUint32", "sync/atomic.AddUint64", "sync/atomic.LoadUint64"], apart := false }
def LawS2769CExactSaid : Prop := lawS2769CExactRow.holds Yba.pinned (OpenSpec.ofChange lawS2769CExactSpec)

/-- ITS FALSE NEIGHBOUR: 'it returns false'. Refute it at one input. -/
def lawS2769CExactWrong : ChangeSpec := { name := "lawS2769CExact", fn := fun _ => fun
  | [d1, d2, d3, d4] => { results := [.lit (.bool false)], args := [d1, d2, d3, d4] }
  | _ => none }
def LawS2769CExactWrongFalsely : Prop := lawS2769CExactRow.holds Yba.pinned (OpenSpec.ofChange lawS2769CExactWrong)

/-- 'sipario.LawS2769CEnterLeave': WHATEVER THE INPUT: true; the input reads as it did. -/
def lawS2769CEnterLeaveSpec : ChangeSpec := { name := "lawS2769CEnterLeave", fn := fun _ => fun
  | [d1, d2] => { results := [.lit (.bool true)], args := [d1, d2] }
  | _ => none }
def lawS2769CEnterLeaveRow : OpenClaim := { program := "ybulkbeia", sum := "f83764a1a6eaa756c65f191238b1ed8bedfc4c1825e5aa10632b4abd48b07b64", func := "example.com/sipario/sipario.LawS2769CEnterLeave", spec := "lawS2769CEnterLeave", inPlace := ["sync/atomic.StoreUint64", "sync/atomic.LoadUint32", "sync/atomic.AddUint64", "sync/atomic.CompareAndSwapUint64", "sync/atomic.LoadUint64"], apart := false }
def LawS2769CEnterLeaveSaid : Prop := lawS2769CEnterLeaveRow.holds Yba.pinned (OpenSpec.ofChange lawS2769CEnterLeaveSpec)

/-- ITS FALSE NEIGHBOUR: 'it returns false'. Refute it at one input. -/
def lawS2769CEnterLeaveWrong : ChangeSpec := { name := "lawS2769CEnterLeave", fn := fun _ => fun
  | [d1, d2] => { results := [.lit (.bool false)], args := [d1, d2] }
  | _ => none }
def LawS2769CEnterLeaveWrongFalsely : Prop := lawS2769CEnterLeaveRow.holds Yba.pinned (OpenSpec.ofChange lawS2769CEnterLeaveWrong)

end Rows
end Go.Proofs.Ybulkbeia
