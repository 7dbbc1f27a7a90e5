/-
  NARROWER THAN 'FOR EVERY INPUT', by the rows' own cells (each row's printed sentence says how): LawS2769AScript: laid · LawS2769ARetired: laid.
  DERIVED. THE GIVEN ROWS OF THIS SEAT. 2 by the template 'for every input the law returns true; each argument reads behind the call as it read before'; 0 by the template 'total and deterministic' (their statements: YbulkbeiaDoorTotals.lean).
  GIVEN WITH THE SEED: the statements are not yours to turn. If you find one false, say at which input.
  Laid BY PROGRAM, IN A SANDBOX (cutbox-rows.mjs): the forced cells as the released guide's own fill.sh prints them over the translation 50b2e2dc1b3c5b10… (all of the seat's roots in one cut). By AI agents, Wed Nov 11 2026. No macro, syntax, notation, axiom, sorry.
-/
import Derived.Test.YbulkbeiaDoorChecked
import GoSem.Claim
import GoSem.ClaimJoined
import GoSem.ClaimMapViews
import Derived.JoinedTies
import Derived.KernelRfl
namespace Go.Proofs.YbulkbeiaDoor
/- THE CELL 'sum', in the pinned program and in every row, IS THE sha256 OF THE DUMP (.gsa) THAT YbulkbeiaDoorProg.lean LOADS. Nothing in Lean hashes anything: it is a label: what it is worth is what the hold of that sum in a sandbox is worth. -/
noncomputable def Ybad.pinned : Pinned := { name := "ybulkbeiadoor", sum := "50b2e2dc1b3c5b10cf5eb085bc7a8839b6ded023411dc8ec0ebe3234656a059f", checked := Ybad.checked }
namespace Rows
def none {H : Type} : Left H := { results := [], args := [] }

/- WHAT THE LISTED PACKAGE-LEVEL VARIABLES READ AS WHEN THE CALL BEGINS. Each datum BY PROGRAM (the guide's laid-datum.mjs) off the statement by which the dump's own 'gosem.cut.vars' lays the variable. In a bare row this is a premise. The card (YbulkbeiaDoorCards.lean) ties it to the program's text. -/
def laid_example_com_sipario_sipario_ownReasons {H : Type} : DataW H := .agg [.lit (.string [115, 116, 97, 114, 116, 105, 110, 103]), .lit (.string [115, 116, 111, 112, 112, 105, 110, 103])]

/-- 'sipario.LawS2769AScript': WHATEVER THE INPUT: true; the input reads as it did. -/
def lawS2769AScriptSpec : ChangeSpec := { name := "lawS2769AScript", vars := ["example.com/sipario/sipario.ownReasons"], fn := fun _ => fun
  | [d1, d2, g1] => { results := [.lit (.bool true)], args := [d1, d2], vars := [g1] }
  | _ => none }
def lawS2769AScriptRow : OpenClaim := { program := "ybulkbeiadoor", sum := "50b2e2dc1b3c5b10cf5eb085bc7a8839b6ded023411dc8ec0ebe3234656a059f", func := "example.com/sipario/sipario.LawS2769AScript", spec := "lawS2769AScript", inPlace := ["(*internal/sync.Mutex).Lock", "internal/race.Disable", "sync/atomic.CompareAndSwapInt32", "internal/race.Enable", "internal/race.Acquire", "(*internal/sync.Mutex).lockSlow", "internal/sync.runtime_canSpin", "internal/sync.runtime_doSpin", "internal/sync.throw", "internal/sync.runtime_nanotime", "internal/sync.runtime_SemacquireMutex", "sync/atomic.AddInt32", "(*internal/sync.Mutex).Unlock", "internal/race.ReleaseMerge", "(*internal/sync.Mutex).unlockSlow", "internal/sync.fatal", "internal/sync.runtime_Semrelease", "sync/atomic.LoadInt32"], named := ["example.com/sipario/sipario.ownReasons"], plainKeys := false, apart := false, laid := [("example.com/sipario/sipario.ownReasons", laid_example_com_sipario_sipario_ownReasons)] }
def LawS2769AScriptSaid : Prop := lawS2769AScriptRow.holds Ybad.pinned (OpenSpec.ofChange lawS2769AScriptSpec)

/-- ITS FALSE NEIGHBOUR: 'it returns false'. Refute it at one input. -/
def lawS2769AScriptWrong : ChangeSpec := { name := "lawS2769AScript", vars := ["example.com/sipario/sipario.ownReasons"], fn := fun _ => fun
  | [d1, d2, g1] => { results := [.lit (.bool false)], args := [d1, d2], vars := [g1] }
  | _ => none }
def LawS2769AScriptWrongFalsely : Prop := lawS2769AScriptRow.holds Ybad.pinned (OpenSpec.ofChange lawS2769AScriptWrong)

/-- 'sipario.LawS2769ARetired': WHATEVER THE INPUT: true; the input reads as it did. -/
def lawS2769ARetiredSpec : ChangeSpec := { name := "lawS2769ARetired", vars := ["example.com/sipario/sipario.ownReasons"], fn := fun _ => fun
  | [d1, d2, g1] => { results := [.lit (.bool true)], args := [d1, d2], vars := [g1] }
  | _ => none }
def lawS2769ARetiredRow : OpenClaim := { program := "ybulkbeiadoor", sum := "50b2e2dc1b3c5b10cf5eb085bc7a8839b6ded023411dc8ec0ebe3234656a059f", func := "example.com/sipario/sipario.LawS2769ARetired", spec := "lawS2769ARetired", inPlace := ["(*internal/sync.Mutex).Lock", "internal/race.Disable", "sync/atomic.CompareAndSwapInt32", "internal/race.Enable", "internal/race.Acquire", "(*internal/sync.Mutex).lockSlow", "internal/sync.runtime_canSpin", "internal/sync.runtime_doSpin", "internal/sync.throw", "internal/sync.runtime_nanotime", "internal/sync.runtime_SemacquireMutex", "sync/atomic.AddInt32", "(*internal/sync.Mutex).Unlock", "internal/race.ReleaseMerge", "(*internal/sync.Mutex).unlockSlow", "internal/sync.fatal", "internal/sync.runtime_Semrelease", "sync/atomic.LoadInt32"], named := ["example.com/sipario/sipario.ownReasons"], plainKeys := false, apart := false, laid := [("example.com/sipario/sipario.ownReasons", laid_example_com_sipario_sipario_ownReasons)] }
def LawS2769ARetiredSaid : Prop := lawS2769ARetiredRow.holds Ybad.pinned (OpenSpec.ofChange lawS2769ARetiredSpec)

/-- ITS FALSE NEIGHBOUR: 'it returns false'. Refute it at one input. -/
def lawS2769ARetiredWrong : ChangeSpec := { name := "lawS2769ARetired", vars := ["example.com/sipario/sipario.ownReasons"], fn := fun _ => fun
  | [d1, d2, g1] => { results := [.lit (.bool false)], args := [d1, d2], vars := [g1] }
  | _ => none }
def LawS2769ARetiredWrongFalsely : Prop := lawS2769ARetiredRow.holds Ybad.pinned (OpenSpec.ofChange lawS2769ARetiredWrong)

end Rows
end Go.Proofs.YbulkbeiaDoor
