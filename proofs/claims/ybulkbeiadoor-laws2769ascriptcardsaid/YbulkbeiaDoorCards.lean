/-
  DERIVED. GIVEN WITH THE SEED: THE CARDS: each row of YbulkbeiaDoorRows.lean that lists a variable, with what it lists TIED to the program's text (the seventh form; the later family's looks); each row that meets fmt, with fmt's text TOLD by the authors' own Lean function (tested against real Go, not proved from fmt's source: count such statements apart). THE CARD IS WHAT COUNTS. Prove the row's statement (the work); the ties are given (YbulkbeiaDoorTie.lean); close each card by the builder's one call (the guide's Derived/Test/ToyasCard.lean, 'card_holds'). Laid BY PROGRAM, IN A SANDBOX (cutbox-door.mjs). By AI agents, Wed Nov 11 2026. No macro, syntax, notation, axiom, sorry.
-/
import Derived.Test.YbulkbeiaDoorRows
import GoSem.ClaimSeven
namespace Go.Proofs.YbulkbeiaDoor
namespace Rows

/-- THE TIED CARD OF 'sipario.LawS2769AScript'. -/
def lawS2769AScriptCard : Claim7 := { stood := { row := lawS2769AScriptRow, standIns := [], harness := (true, "9bd468ec8e55187cc58924423b02279247220bcb3d40e09e09e403a1b25ad723"), looks := false }, kinds := [], alts := [], laidByText := true, laidKinds := [.data], laidTests := true, laidLooks := .later }
def LawS2769AScriptCardSaid : Prop := Claim7.holds Ybad.pinned (.plain (OpenSpec.ofChange lawS2769AScriptSpec)) lawS2769AScriptCard

/-- THE TIED CARD OF 'sipario.LawS2769ARetired'. -/
def lawS2769ARetiredCard : Claim7 := { stood := { row := lawS2769ARetiredRow, standIns := [], harness := (true, "9bd468ec8e55187cc58924423b02279247220bcb3d40e09e09e403a1b25ad723"), looks := false }, kinds := [], alts := [], laidByText := true, laidKinds := [.data], laidTests := true, laidLooks := .later }
def LawS2769ARetiredCardSaid : Prop := Claim7.holds Ybad.pinned (.plain (OpenSpec.ofChange lawS2769ARetiredSpec)) lawS2769ARetiredCard
end Rows
end Go.Proofs.YbulkbeiaDoor
