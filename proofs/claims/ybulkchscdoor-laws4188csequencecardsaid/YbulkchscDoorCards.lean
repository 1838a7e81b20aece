/-
  DERIVED. GIVEN WITH THE SEED: THE CARDS: each row of YbulkchscDoorRows.lean that lists a variable, with what it lists TIED to the program's text (the seventh form; the later family's looks); each row that meets fmt, with fmt's text TOLD by the authors' own Lean function (tested against real Go, not proved from fmt's source: count such statements apart). THE CARD IS WHAT COUNTS. Prove the row's statement (the work); the ties are given (YbulkchscDoorTie.lean); close each card by the builder's one call (the guide's Derived/Test/ToyasCard.lean, 'card_holds'). Laid BY PROGRAM, IN A SANDBOX (cutbox-door.mjs). By AI agents, Wed Nov 11 2026. No macro, syntax, notation, axiom, sorry.
-/
import Derived.Test.YbulkchscDoorRows
import GoSem.ClaimSeven
namespace Go.Proofs.YbulkchscDoor
namespace Rows

/-- THE TIED CARD OF 'pg.LawS4188CExact'. -/
def lawS4188CExactCard : Claim7 := { stood := { row := lawS4188CExactRow, standIns := [], harness := (true, "12e81572b5ce96ca63b1bb56be848d27e151e8717322e00390b27467581c6752"), looks := true }, kinds := [], alts := [], laidByText := true, laidKinds := [.sentinel], laidTests := true, laidLooks := .later }
def LawS4188CExactCardSaid : Prop := Claim7.holds Ybad.pinned (.plain (OpenSpec.ofChange lawS4188CExactSpec)) lawS4188CExactCard

/-- THE TIED CARD OF 'pg.LawS4188CSequence'. -/
def lawS4188CSequenceCard : Claim7 := { stood := { row := lawS4188CSequenceRow, standIns := [], harness := (true, "12e81572b5ce96ca63b1bb56be848d27e151e8717322e00390b27467581c6752"), looks := true }, kinds := [], alts := [], laidByText := true, laidKinds := [.sentinel], laidTests := true, laidLooks := .later }
def LawS4188CSequenceCardSaid : Prop := Claim7.holds Ybad.pinned (.plain (OpenSpec.ofChange lawS4188CSequenceSpec)) lawS4188CSequenceCard
end Rows
end Go.Proofs.YbulkchscDoor
