/-
  DERIVED. GIVEN WITH THE SEED: THE CARDS: each row of YbulkchqmDoorRows.lean that lists a variable, with what it lists TIED to the program's text (the seventh form; the later family's looks); each row that meets fmt, with fmt's text TOLD by the authors' own Lean function (tested against real Go, not proved from fmt's source: count such statements apart). THE CARD IS WHAT COUNTS. Prove the row's statement (the work); the ties are given (YbulkchqmDoorTie.lean); close each card by the builder's one call (the guide's Derived/Test/ToyasCard.lean, 'card_holds'). Laid BY PROGRAM, IN A SANDBOX (cutbox-door.mjs). By AI agents, Wed Nov 11 2026. No macro, syntax, notation, axiom, sorry.
-/
import Derived.Test.YbulkchqmDoorRows
import GoSem.ClaimSeven
namespace Go.Proofs.YbulkchqmDoor
namespace Rows

/-- THE TOLD AND TIED CARD OF 'broadcast.LawS4185AAccept'. -/
def lawS4185AAcceptCard : Claim7 := { stood := { row := lawS4185AAcceptRow, standIns := [], harness := (true, "45454d03a57836e36dcb55f7f62d30d8466876788a4af16cbcd4ad7d3014e9a6"), looks := true }, told := true, laidByText := true, laidKinds := [.data], laidTests := true, laidLooks := .later, goes := false }
def LawS4185AAcceptToldSaid : Prop := Claim7.holds Ybad.pinned (.plain (OpenSpec.ofChange lawS4185AAcceptSpec)) lawS4185AAcceptCard
/-- ITS FALSE NEIGHBOUR. Refute it at one input. -/
def LawS4185AAcceptToldWrongFalsely : Prop := Claim7.holds Ybad.pinned (.plain (OpenSpec.ofChange lawS4185AAcceptWrong)) lawS4185AAcceptCard
end Rows
end Go.Proofs.YbulkchqmDoor
