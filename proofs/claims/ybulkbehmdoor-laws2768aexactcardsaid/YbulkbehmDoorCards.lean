/-
  DERIVED. GIVEN WITH THE SEED: THE CARDS: each row of YbulkbehmDoorRows.lean that lists a variable, with what it lists TIED to the program's text (the seventh form; the later family's looks); each row that meets fmt, with fmt's text TOLD by the authors' own Lean function (tested against real Go, not proved from fmt's source: count such statements apart). THE CARD IS WHAT COUNTS. Prove the row's statement (the work); the ties are given (YbulkbehmDoorTie.lean); close each card by the builder's one call (the guide's Derived/Test/ToyasCard.lean, 'card_holds'). Laid BY PROGRAM, IN A SANDBOX (cutbox-door.mjs). By AI agents, Wed Nov 11 2026. No macro, syntax, notation, axiom, sorry.
-/
import Derived.Test.YbulkbehmDoorRows
import GoSem.ClaimSeven
namespace Go.Proofs.YbulkbehmDoor
namespace Rows

/-- THE TIED CARD OF 'resolve.LawS2768AExact'. -/
def lawS2768AExactCard : Claim7 := { stood := { row := lawS2768AExactRow, standIns := [], harness := (true, "2542af5741eca09012a57ed22bce9594721e161ea96cda72d8e0f9c64e4be86a"), looks := false }, kinds := [], alts := [], laidByText := true, laidKinds := [.data], laidTests := true, laidLooks := .later }
def LawS2768AExactCardSaid : Prop := Claim7.holds Ybad.pinned (.plain (OpenSpec.ofChange lawS2768AExactSpec)) lawS2768AExactCard

/-- THE TIED CARD OF 'resolve.LawS2768ABuildStays'. -/
def lawS2768ABuildStaysCard : Claim7 := { stood := { row := lawS2768ABuildStaysRow, standIns := [], harness := (true, "2542af5741eca09012a57ed22bce9594721e161ea96cda72d8e0f9c64e4be86a"), looks := false }, kinds := [], alts := [], laidByText := true, laidKinds := [.data], laidTests := true, laidLooks := .later }
def LawS2768ABuildStaysCardSaid : Prop := Claim7.holds Ybad.pinned (.plain (OpenSpec.ofChange lawS2768ABuildStaysSpec)) lawS2768ABuildStaysCard
end Rows
end Go.Proofs.YbulkbehmDoor
