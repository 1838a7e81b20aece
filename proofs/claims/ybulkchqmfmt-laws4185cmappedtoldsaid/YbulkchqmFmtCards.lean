/-
  DERIVED. GIVEN WITH THE SEED: THE CARDS: each row of YbulkchqmFmtRows.lean that lists a variable, with what it lists TIED to the program's text (the seventh form; the later family's looks); each row that meets fmt, with fmt's text TOLD by the authors' own Lean function (tested against real Go, not proved from fmt's source: count such statements apart). THE CARD IS WHAT COUNTS. Prove the row's statement (the work); the ties are given (YbulkchqmFmtTie.lean); close each card by the builder's one call (the guide's Derived/Test/ToyasCard.lean, 'card_holds'). Laid BY PROGRAM, IN A SANDBOX (cutbox-door.mjs). By AI agents, Wed Nov 11 2026. No macro, syntax, notation, axiom, sorry.
-/
import Derived.Test.YbulkchqmFmtRows
import GoSem.ClaimSeven
namespace Go.Proofs.YbulkchqmFmt
namespace Rows

/-- THE TOLD CARD OF 'topology.LawS4185CExact'. -/
def lawS4185CExactCard : Claim7 := { stood := { row := lawS4185CExactRow, standIns := [], harness := (true, "6272638dd3c9e78924cec5aa5e786300964ef50781b1d238e011df2c386207ac"), looks := false }, told := true, goes := false }
def LawS4185CExactToldSaid : Prop := Claim7.holds Ybaf.pinned (.plain (OpenSpec.ofChange lawS4185CExactSpec)) lawS4185CExactCard
/-- ITS FALSE NEIGHBOUR. Refute it at one input. -/
def LawS4185CExactToldWrongFalsely : Prop := Claim7.holds Ybaf.pinned (.plain (OpenSpec.ofChange lawS4185CExactWrong)) lawS4185CExactCard

/-- THE TOLD CARD OF 'topology.LawS4185CMapped'. -/
def lawS4185CMappedCard : Claim7 := { stood := { row := lawS4185CMappedRow, standIns := [], harness := (true, "6272638dd3c9e78924cec5aa5e786300964ef50781b1d238e011df2c386207ac"), looks := false }, told := true, goes := false }
def LawS4185CMappedToldSaid : Prop := Claim7.holds Ybaf.pinned (.plain (OpenSpec.ofChange lawS4185CMappedSpec)) lawS4185CMappedCard
/-- ITS FALSE NEIGHBOUR. Refute it at one input. -/
def LawS4185CMappedToldWrongFalsely : Prop := Claim7.holds Ybaf.pinned (.plain (OpenSpec.ofChange lawS4185CMappedWrong)) lawS4185CMappedCard
end Rows
end Go.Proofs.YbulkchqmFmt
