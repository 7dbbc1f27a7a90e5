/-
  NARROWER THAN 'FOR EVERY INPUT', by the rows' own cells (each row's printed sentence says how): LawS2768AExact: laid · LawS2768ABuildStays: laid.
  DERIVED. THE GIVEN ROWS OF THIS SEAT. 2 by the template 'for every input the law returns true; each argument reads behind the call as it read before'; 0 by the template 'total and deterministic' (their statements: YbulkbehmDoorTotals.lean).
  GIVEN WITH THE SEED: the statements are not yours to turn. If you find one false, say at which input.
  Laid BY PROGRAM, IN A SANDBOX (cutbox-rows.mjs): the forced cells as the released guide's own fill.sh prints them over the translation 4b688e2c73c12805… (all of the seat's roots in one cut). By AI agents, Wed Nov 11 2026. No macro, syntax, notation, axiom, sorry.
-/
import Derived.Test.YbulkbehmDoorChecked
import GoSem.Claim
import GoSem.ClaimJoined
import GoSem.ClaimMapViews
import Derived.JoinedTies
import Derived.KernelRfl
namespace Go.Proofs.YbulkbehmDoor
/- THE CELL 'sum', in the pinned program and in every row, IS THE sha256 OF THE DUMP (.gsa) THAT YbulkbehmDoorProg.lean LOADS. Nothing in Lean hashes anything: it is a label: what it is worth is what the hold of that sum in a sandbox is worth. -/
noncomputable def Ybad.pinned : Pinned := { name := "ybulkbehmdoor", sum := "4b688e2c73c1280562ea75020031742693eb570419968952ef2d4e672cca65c2", checked := Ybad.checked }
namespace Rows
def none {H : Type} : Left H := { results := [], args := [] }

/- WHAT THE LISTED PACKAGE-LEVEL VARIABLES READ AS WHEN THE CALL BEGINS. Each datum BY PROGRAM (the guide's laid-datum.mjs) off the statement by which the dump's own 'gosem.cut.vars' lays the variable. In a bare row this is a premise. The card (YbulkbehmDoorCards.lean) ties it to the program's text. -/
def laid_example_com_offsetwise_offsetwise_pkg_resolve_platformLists {H : Type} : DataW H := .agg [.agg [.lit (.string [112, 107, 103, 115, 66, 117, 105, 108, 100, 66, 117, 105, 108, 100]), .agg [.lit (.int .i64 (-1)), .lit (.int .i64 (-1))]], .agg [.lit (.string [112, 107, 103, 115, 66, 117, 105, 108, 100, 72, 111, 115, 116]), .agg [.lit (.int .i64 (-1)), .lit (.int .i64 0)]], .agg [.lit (.string [112, 107, 103, 115, 66, 117, 105, 108, 100, 84, 97, 114, 103, 101, 116]), .agg [.lit (.int .i64 (-1)), .lit (.int .i64 1)]], .agg [.lit (.string [112, 107, 103, 115, 72, 111, 115, 116, 72, 111, 115, 116]), .agg [.lit (.int .i64 0), .lit (.int .i64 0)]], .agg [.lit (.string [112, 107, 103, 115, 72, 111, 115, 116, 84, 97, 114, 103, 101, 116]), .agg [.lit (.int .i64 0), .lit (.int .i64 1)]], .agg [.lit (.string [112, 107, 103, 115, 84, 97, 114, 103, 101, 116, 84, 97, 114, 103, 101, 116]), .agg [.lit (.int .i64 1), .lit (.int .i64 1)]]]

/-- 'resolve.LawS2768AExact': WHATEVER THE INPUT: true; the input reads as it did. -/
def lawS2768AExactSpec : ChangeSpec := { name := "lawS2768AExact", vars := ["example.com/offsetwise/offsetwise/pkg/resolve.platformLists"], fn := fun _ => fun
  | [d1, d2, d3, d4, g1] => { results := [.lit (.bool true)], args := [d1, d2, d3, d4], vars := [g1] }
  | _ => none }
def lawS2768AExactRow : OpenClaim := { program := "ybulkbehmdoor", sum := "4b688e2c73c1280562ea75020031742693eb570419968952ef2d4e672cca65c2", func := "example.com/offsetwise/offsetwise/pkg/resolve.LawS2768AExact", spec := "lawS2768AExact", unfollowed := true, recurses := true, named := ["example.com/offsetwise/offsetwise/pkg/resolve.platformLists"], apart := false, laid := [("example.com/offsetwise/offsetwise/pkg/resolve.platformLists", laid_example_com_offsetwise_offsetwise_pkg_resolve_platformLists)] }
def LawS2768AExactSaid : Prop := lawS2768AExactRow.holds Ybad.pinned (OpenSpec.ofChange lawS2768AExactSpec)

/-- ITS FALSE NEIGHBOUR: 'it returns false'. Refute it at one input. -/
def lawS2768AExactWrong : ChangeSpec := { name := "lawS2768AExact", vars := ["example.com/offsetwise/offsetwise/pkg/resolve.platformLists"], fn := fun _ => fun
  | [d1, d2, d3, d4, g1] => { results := [.lit (.bool false)], args := [d1, d2, d3, d4], vars := [g1] }
  | _ => none }
def LawS2768AExactWrongFalsely : Prop := lawS2768AExactRow.holds Ybad.pinned (OpenSpec.ofChange lawS2768AExactWrong)

/-- 'resolve.LawS2768ABuildStays': WHATEVER THE INPUT: true; the input reads as it did. -/
def lawS2768ABuildStaysSpec : ChangeSpec := { name := "lawS2768ABuildStays", vars := ["example.com/offsetwise/offsetwise/pkg/resolve.platformLists"], fn := fun _ => fun
  | [d1, d2, g1] => { results := [.lit (.bool true)], args := [d1, d2], vars := [g1] }
  | _ => none }
def lawS2768ABuildStaysRow : OpenClaim := { program := "ybulkbehmdoor", sum := "4b688e2c73c1280562ea75020031742693eb570419968952ef2d4e672cca65c2", func := "example.com/offsetwise/offsetwise/pkg/resolve.LawS2768ABuildStays", spec := "lawS2768ABuildStays", unfollowed := true, recurses := true, named := ["example.com/offsetwise/offsetwise/pkg/resolve.platformLists"], apart := false, laid := [("example.com/offsetwise/offsetwise/pkg/resolve.platformLists", laid_example_com_offsetwise_offsetwise_pkg_resolve_platformLists)] }
def LawS2768ABuildStaysSaid : Prop := lawS2768ABuildStaysRow.holds Ybad.pinned (OpenSpec.ofChange lawS2768ABuildStaysSpec)

/-- ITS FALSE NEIGHBOUR: 'it returns false'. Refute it at one input. -/
def lawS2768ABuildStaysWrong : ChangeSpec := { name := "lawS2768ABuildStays", vars := ["example.com/offsetwise/offsetwise/pkg/resolve.platformLists"], fn := fun _ => fun
  | [d1, d2, g1] => { results := [.lit (.bool false)], args := [d1, d2], vars := [g1] }
  | _ => none }
def LawS2768ABuildStaysWrongFalsely : Prop := lawS2768ABuildStaysRow.holds Ybad.pinned (OpenSpec.ofChange lawS2768ABuildStaysWrong)

end Rows
end Go.Proofs.YbulkbehmDoor
