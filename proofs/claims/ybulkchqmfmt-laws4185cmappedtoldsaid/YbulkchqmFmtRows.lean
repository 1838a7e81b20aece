/-
  No cell of these rows narrows 'for every input' (looked for: loops, veiled, ifaces, maps, wideKeys, modest, calm, conditions, laid).
  DERIVED. THE GIVEN ROWS OF THIS SEAT. 2 by the template 'for every input the law returns true; each argument reads behind the call as it read before'; 0 by the template 'total and deterministic' (their statements: YbulkchqmFmtTotals.lean).
  GIVEN WITH THE SEED: the statements are not yours to turn. If you find one false, say at which input.
  Laid BY PROGRAM, IN A SANDBOX (cutbox-rows.mjs): the forced cells as the released guide's own fill.sh prints them over the translation 1ea89f9400ab45cb… (all of the seat's roots in one cut). By AI agents, Wed Nov 11 2026. No macro, syntax, notation, axiom, sorry.
-/
import Derived.Test.YbulkchqmFmtChecked
import GoSem.Claim
import GoSem.ClaimJoined
import GoSem.ClaimMapViews
import Derived.JoinedTies
import Derived.KernelRfl
namespace Go.Proofs.YbulkchqmFmt
/- THE CELL 'sum', in the pinned program and in every row, IS THE sha256 OF THE DUMP (.gsa) THAT YbulkchqmFmtProg.lean LOADS. Nothing in Lean hashes anything: it is a label: what it is worth is what the hold of that sum in a sandbox is worth. -/
noncomputable def Ybaf.pinned : Pinned := { name := "ybulkchqmfmt", sum := "1ea89f9400ab45cb578a8ed565e4a14f1788f9e6976ba21f06e6dc478995ff12", checked := Ybaf.checked }
namespace Rows
def none {H : Type} : Left H := { results := [], args := [] }

/-- 'topology.LawS4185CExact': WHATEVER THE INPUT: true; the input reads as it did. -/
def lawS4185CExactSpec : ChangeSpec := { name := "lawS4185CExact", fn := fun _ => fun
  | [d1, d2] => { results := [.lit (.bool true)], args := [d1, d2] }
  | _ => none }
def lawS4185CExactRow : OpenClaim := { program := "ybulkchqmfmt", sum := "1ea89f9400ab45cb578a8ed565e4a14f1788f9e6976ba21f06e6dc478995ff12", func := "example.com/varangian/varangian/topology.LawS4185CExact", spec := "lawS4185CExact", stops := ["fmt.errorf"], inPlace := ["fmt.errorf"], apart := false }
/-- NO THEOREM (fmt's text is open here; it may be false): for the released tool's asking of the row's closed facts alone. THE STATEMENT IS 'LawS4185CExactToldSaid' (YbulkchqmFmtCards.lean). -/
def LawS4185CExactFormAsk : Prop := lawS4185CExactRow.holds Ybaf.pinned (OpenSpec.ofChange lawS4185CExactSpec)

/-- ITS FALSE NEIGHBOUR: 'it returns false'. Refute it at one input. -/
def lawS4185CExactWrong : ChangeSpec := { name := "lawS4185CExact", fn := fun _ => fun
  | [d1, d2] => { results := [.lit (.bool false)], args := [d1, d2] }
  | _ => none }
def LawS4185CExactWrongFormAsk : Prop := lawS4185CExactRow.holds Ybaf.pinned (OpenSpec.ofChange lawS4185CExactWrong)

/-- 'topology.LawS4185CMapped': WHATEVER THE INPUT: true; the input reads as it did. -/
def lawS4185CMappedSpec : ChangeSpec := { name := "lawS4185CMapped", fn := fun _ => fun
  | [d1, d2] => { results := [.lit (.bool true)], args := [d1, d2] }
  | _ => none }
def lawS4185CMappedRow : OpenClaim := { program := "ybulkchqmfmt", sum := "1ea89f9400ab45cb578a8ed565e4a14f1788f9e6976ba21f06e6dc478995ff12", func := "example.com/varangian/varangian/topology.LawS4185CMapped", spec := "lawS4185CMapped", stops := ["fmt.errorf"], inPlace := ["fmt.errorf"], apart := false }
/-- NO THEOREM (fmt's text is open here; it may be false): for the released tool's asking of the row's closed facts alone. THE STATEMENT IS 'LawS4185CMappedToldSaid' (YbulkchqmFmtCards.lean). -/
def LawS4185CMappedFormAsk : Prop := lawS4185CMappedRow.holds Ybaf.pinned (OpenSpec.ofChange lawS4185CMappedSpec)

/-- ITS FALSE NEIGHBOUR: 'it returns false'. Refute it at one input. -/
def lawS4185CMappedWrong : ChangeSpec := { name := "lawS4185CMapped", fn := fun _ => fun
  | [d1, d2] => { results := [.lit (.bool false)], args := [d1, d2] }
  | _ => none }
def LawS4185CMappedWrongFormAsk : Prop := lawS4185CMappedRow.holds Ybaf.pinned (OpenSpec.ofChange lawS4185CMappedWrong)

end Rows
end Go.Proofs.YbulkchqmFmt
