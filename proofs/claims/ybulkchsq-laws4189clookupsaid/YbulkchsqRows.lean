/-
  No cell of these rows narrows 'for every input' (looked for: loops, veiled, ifaces, maps, wideKeys, modest, calm, conditions, laid).
  DERIVED. THE GIVEN ROWS OF THIS SEAT. 2 by the template 'for every input the law returns true; each argument reads behind the call as it read before'; 0 by the template 'total and deterministic' (their statements: YbulkchsqTotals.lean).
  GIVEN WITH THE SEED: the statements are not yours to turn. If you find one false, say at which input.
  Laid BY PROGRAM, IN A SANDBOX (cutbox-rows.mjs): the forced cells as the released guide's own fill.sh prints them over the translation 389f5894f5342171… (all of the seat's roots in one cut). By AI agents, Wed Nov 11 2026. No macro, syntax, notation, axiom, sorry.
-/
import Derived.Test.YbulkchsqChecked
import GoSem.Claim
import GoSem.ClaimJoined
import GoSem.ClaimMapViews
import Derived.JoinedTies
import Derived.KernelRfl
namespace Go.Proofs.Ybulkchsq
/- THE CELL 'sum', in the pinned program and in every row, IS THE sha256 OF THE DUMP (.gsa) THAT YbulkchsqProg.lean LOADS. Nothing in Lean hashes anything: it is a label: what it is worth is what the hold of that sum in a sandbox is worth. -/
noncomputable def Yba.pinned : Pinned := { name := "ybulkchsq", sum := "389f5894f534217177422ec24227c23fbc5ef6241b33431bfa5d7d62d6fcb42b", checked := Yba.checked }
namespace Rows
def none {H : Type} : Left H := { results := [], args := [] }

/-- 'layout.LawS4189CLookup': WHATEVER THE INPUT: true; the input reads as it did. -/
def lawS4189CLookupSpec : ChangeSpec := { name := "lawS4189CLookup", fn := fun _ => fun
  | [d1, d2] => { results := [.lit (.bool true)], args := [d1, d2] }
  | _ => none }
def lawS4189CLookupRow : OpenClaim := { program := "ybulkchsq", sum := "389f5894f534217177422ec24227c23fbc5ef6241b33431bfa5d7d62d6fcb42b", func := "example.com/tidemark/tidemark/layout.LawS4189CLookup", spec := "lawS4189CLookup", apart := false }
def LawS4189CLookupSaid : Prop := lawS4189CLookupRow.holds Yba.pinned (OpenSpec.ofChange lawS4189CLookupSpec)

/-- ITS FALSE NEIGHBOUR: 'it returns false'. Refute it at one input. -/
def lawS4189CLookupWrong : ChangeSpec := { name := "lawS4189CLookup", fn := fun _ => fun
  | [d1, d2] => { results := [.lit (.bool false)], args := [d1, d2] }
  | _ => none }
def LawS4189CLookupWrongFalsely : Prop := lawS4189CLookupRow.holds Yba.pinned (OpenSpec.ofChange lawS4189CLookupWrong)

/-- 'layout.LawS4189CLimit': WHATEVER THE INPUT: true; the input reads as it did. -/
def lawS4189CLimitSpec : ChangeSpec := { name := "lawS4189CLimit", fn := fun _ => fun
  | [d] => { results := [.lit (.bool true)], args := [d] }
  | _ => none }
def lawS4189CLimitRow : OpenClaim := { program := "ybulkchsq", sum := "389f5894f534217177422ec24227c23fbc5ef6241b33431bfa5d7d62d6fcb42b", func := "example.com/tidemark/tidemark/layout.LawS4189CLimit", spec := "lawS4189CLimit", apart := false }
def LawS4189CLimitSaid : Prop := lawS4189CLimitRow.holds Yba.pinned (OpenSpec.ofChange lawS4189CLimitSpec)

/-- ITS FALSE NEIGHBOUR: 'it returns false'. Refute it at one input. -/
def lawS4189CLimitWrong : ChangeSpec := { name := "lawS4189CLimit", fn := fun _ => fun
  | [d] => { results := [.lit (.bool false)], args := [d] }
  | _ => none }
def LawS4189CLimitWrongFalsely : Prop := lawS4189CLimitRow.holds Yba.pinned (OpenSpec.ofChange lawS4189CLimitWrong)

end Rows
end Go.Proofs.Ybulkchsq
