/-
  No cell of these rows narrows 'for every input' (looked for: loops, veiled, ifaces, maps, wideKeys, modest, calm, conditions, laid).
  DERIVED. THE GIVEN ROWS OF THIS SEAT. 4 by the template 'for every input the law returns true; each argument reads behind the call as it read before'; 0 by the template 'total and deterministic' (their statements: YbulkbegyTotals.lean).
  GIVEN WITH THE SEED: the statements are not yours to turn. If you find one false, say at which input.
  Laid BY PROGRAM, IN A SANDBOX (cutbox-rows.mjs): the forced cells as the released guide's own fill.sh prints them over the translation ffbed7369485eefb… (all of the seat's roots in one cut). By AI agents, Wed Nov 11 2026. No macro, syntax, notation, axiom, sorry.
-/
import Derived.Test.YbulkbegyChecked
import GoSem.Claim
import GoSem.ClaimJoined
import GoSem.ClaimMapViews
import Derived.JoinedTies
import Derived.KernelRfl
namespace Go.Proofs.Ybulkbegy
/- THE CELL 'sum', in the pinned program and in every row, IS THE sha256 OF THE DUMP (.gsa) THAT YbulkbegyProg.lean LOADS. Nothing in Lean hashes anything: it is a label: what it is worth is what the hold of that sum in a sandbox is worth. -/
noncomputable def Yba.pinned : Pinned := { name := "ybulkbegy", sum := "ffbed7369485eefbe065c3d2072dfa0cc8847169ec2de325ba387e7d8f542f98", checked := Yba.checked }
namespace Rows
def none {H : Type} : Left H := { results := [], args := [] }

/-- 'project.LawS2767AAppend': WHATEVER THE INPUT: true; the input reads as it did. -/
def lawS2767AAppendSpec : ChangeSpec := { name := "lawS2767AAppend", fn := fun _ => fun
  | [d1, d2] => { results := [.lit (.bool true)], args := [d1, d2] }
  | _ => none }
def lawS2767AAppendRow : OpenClaim := { program := "ybulkbegy", sum := "ffbed7369485eefbe065c3d2072dfa0cc8847169ec2de325ba387e7d8f542f98", func := "example.com/quillcraft/quillcraft/project.LawS2767AAppend", spec := "lawS2767AAppend", apart := false }
def LawS2767AAppendSaid : Prop := lawS2767AAppendRow.holds Yba.pinned (OpenSpec.ofChange lawS2767AAppendSpec)

/-- ITS FALSE NEIGHBOUR: 'it returns false'. Refute it at one input. -/
def lawS2767AAppendWrong : ChangeSpec := { name := "lawS2767AAppend", fn := fun _ => fun
  | [d1, d2] => { results := [.lit (.bool false)], args := [d1, d2] }
  | _ => none }
def LawS2767AAppendWrongFalsely : Prop := lawS2767AAppendRow.holds Yba.pinned (OpenSpec.ofChange lawS2767AAppendWrong)

/-- 'project.LawS2767ANotNode': WHATEVER THE INPUT: true; the input reads as it did. -/
def lawS2767ANotNodeSpec : ChangeSpec := { name := "lawS2767ANotNode", fn := fun _ => fun
  | [d1, d2] => { results := [.lit (.bool true)], args := [d1, d2] }
  | _ => none }
def lawS2767ANotNodeRow : OpenClaim := { program := "ybulkbegy", sum := "ffbed7369485eefbe065c3d2072dfa0cc8847169ec2de325ba387e7d8f542f98", func := "example.com/quillcraft/quillcraft/project.LawS2767ANotNode", spec := "lawS2767ANotNode", apart := false }
def LawS2767ANotNodeSaid : Prop := lawS2767ANotNodeRow.holds Yba.pinned (OpenSpec.ofChange lawS2767ANotNodeSpec)

/-- ITS FALSE NEIGHBOUR: 'it returns false'. Refute it at one input. -/
def lawS2767ANotNodeWrong : ChangeSpec := { name := "lawS2767ANotNode", fn := fun _ => fun
  | [d1, d2] => { results := [.lit (.bool false)], args := [d1, d2] }
  | _ => none }
def LawS2767ANotNodeWrongFalsely : Prop := lawS2767ANotNodeRow.holds Yba.pinned (OpenSpec.ofChange lawS2767ANotNodeWrong)

/-- 'format.LawS2767CExact': WHATEVER THE INPUT: true; the input reads as it did. -/
def lawS2767CExactSpec : ChangeSpec := { name := "lawS2767CExact", fn := fun _ => fun
  | [d1, d2, d3, d4, d5] => { results := [.lit (.bool true)], args := [d1, d2, d3, d4, d5] }
  | _ => none }
def lawS2767CExactRow : OpenClaim := { program := "ybulkbegy", sum := "ffbed7369485eefbe065c3d2072dfa0cc8847169ec2de325ba387e7d8f542f98", func := "example.com/quillcraft/quillcraft/format.LawS2767CExact", spec := "lawS2767CExact", apart := false }
def LawS2767CExactSaid : Prop := lawS2767CExactRow.holds Yba.pinned (OpenSpec.ofChange lawS2767CExactSpec)

/-- ITS FALSE NEIGHBOUR: 'it returns false'. Refute it at one input. -/
def lawS2767CExactWrong : ChangeSpec := { name := "lawS2767CExact", fn := fun _ => fun
  | [d1, d2, d3, d4, d5] => { results := [.lit (.bool false)], args := [d1, d2, d3, d4, d5] }
  | _ => none }
def LawS2767CExactWrongFalsely : Prop := lawS2767CExactRow.holds Yba.pinned (OpenSpec.ofChange lawS2767CExactWrong)

/-- 'format.LawS2767CNoFile': WHATEVER THE INPUT: true; the input reads as it did. -/
def lawS2767CNoFileSpec : ChangeSpec := { name := "lawS2767CNoFile", fn := fun _ => fun
  | [d1, d2, d3] => { results := [.lit (.bool true)], args := [d1, d2, d3] }
  | _ => none }
def lawS2767CNoFileRow : OpenClaim := { program := "ybulkbegy", sum := "ffbed7369485eefbe065c3d2072dfa0cc8847169ec2de325ba387e7d8f542f98", func := "example.com/quillcraft/quillcraft/format.LawS2767CNoFile", spec := "lawS2767CNoFile", apart := false }
def LawS2767CNoFileSaid : Prop := lawS2767CNoFileRow.holds Yba.pinned (OpenSpec.ofChange lawS2767CNoFileSpec)

/-- ITS FALSE NEIGHBOUR: 'it returns false'. Refute it at one input. -/
def lawS2767CNoFileWrong : ChangeSpec := { name := "lawS2767CNoFile", fn := fun _ => fun
  | [d1, d2, d3] => { results := [.lit (.bool false)], args := [d1, d2, d3] }
  | _ => none }
def LawS2767CNoFileWrongFalsely : Prop := lawS2767CNoFileRow.holds Yba.pinned (OpenSpec.ofChange lawS2767CNoFileWrong)

end Rows
end Go.Proofs.Ybulkbegy
