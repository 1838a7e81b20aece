/-
  NARROWER THAN 'FOR EVERY INPUT', by the rows' own cells (each row's printed sentence says how): LawS4188CExact: ifaces, laid · LawS4188CSequence: ifaces, laid.
  DERIVED. THE GIVEN ROWS OF THIS SEAT. 2 by the template 'for every input the law returns true; each argument reads behind the call as it read before'; 0 by the template 'total and deterministic' (their statements: YbulkchscDoorTotals.lean).
  GIVEN WITH THE SEED: the statements are not yours to turn. If you find one false, say at which input.
  Laid BY PROGRAM, IN A SANDBOX (cutbox-rows.mjs): the forced cells as the released guide's own fill.sh prints them over the translation d70d450149e82482… (all of the seat's roots in one cut). By AI agents, Wed Nov 11 2026. No macro, syntax, notation, axiom, sorry.
-/
import Derived.Test.YbulkchscDoorChecked
import GoSem.Claim
import GoSem.ClaimJoined
import GoSem.ClaimMapViews
import Derived.JoinedTies
import Derived.KernelRfl
namespace Go.Proofs.YbulkchscDoor
/- THE CELL 'sum', in the pinned program and in every row, IS THE sha256 OF THE DUMP (.gsa) THAT YbulkchscDoorProg.lean LOADS. Nothing in Lean hashes anything: it is a label: what it is worth is what the hold of that sum in a sandbox is worth. -/
noncomputable def Ybad.pinned : Pinned := { name := "ybulkchscdoor", sum := "d70d450149e8248288cf7af744ff4281e4331eca25b9e28b17bb5120d402cd7b", checked := Ybad.checked }
namespace Rows
def none {H : Type} : Left H := { results := [], args := [] }

/- WHAT THE LISTED PACKAGE-LEVEL VARIABLES READ AS WHEN THE CALL BEGINS. Each datum BY PROGRAM (the guide's laid-datum.mjs) off the statement by which the dump's own 'gosem.cut.vars' lays the variable. In a bare row this is a premise. The card (YbulkchscDoorCards.lean) ties it to the program's text. -/
def laid_example_com_votekeeper_votekeeper_pkg_pg_errShort {H : Type} : DataW H := .iface "*errors.errorString" (.ptr (.agg [.lit (.string [116, 104, 101, 32, 115, 101, 114, 118, 101, 114, 32, 115, 101, 110, 116, 32, 97, 32, 109, 101, 115, 115, 97, 103, 101, 32, 115, 104, 111, 114, 116, 101, 114, 32, 116, 104, 97, 110, 32, 105, 116, 115, 32, 99, 111, 110, 116, 101, 110, 116, 115])]))

/-- 'pg.LawS4188CExact': WHATEVER THE INPUT: true; the input reads as it did. -/
def lawS4188CExactSpec : ChangeSpec := { name := "lawS4188CExact", vars := ["example.com/votekeeper/votekeeper/pkg/pg.errShort"], fn := fun _ => fun
  | [d1, d2, g1] => { results := [.lit (.bool true)], args := [d1, d2], vars := [g1] }
  | _ => none }
def lawS4188CExactRow : OpenClaim := { program := "ybulkchscdoor", sum := "d70d450149e8248288cf7af744ff4281e4331eca25b9e28b17bb5120d402cd7b", func := "example.com/votekeeper/votekeeper/pkg/pg.LawS4188CExact", spec := "lawS4188CExact", named := ["example.com/votekeeper/votekeeper/pkg/pg.errShort"], ifaces := true, apart := false, laid := [("example.com/votekeeper/votekeeper/pkg/pg.errShort", laid_example_com_votekeeper_votekeeper_pkg_pg_errShort)] }
def LawS4188CExactSaid : Prop := lawS4188CExactRow.holds Ybad.pinned (OpenSpec.ofChange lawS4188CExactSpec)

/-- ITS FALSE NEIGHBOUR: 'it returns false'. Refute it at one input. -/
def lawS4188CExactWrong : ChangeSpec := { name := "lawS4188CExact", vars := ["example.com/votekeeper/votekeeper/pkg/pg.errShort"], fn := fun _ => fun
  | [d1, d2, g1] => { results := [.lit (.bool false)], args := [d1, d2], vars := [g1] }
  | _ => none }
def LawS4188CExactWrongFalsely : Prop := lawS4188CExactRow.holds Ybad.pinned (OpenSpec.ofChange lawS4188CExactWrong)

/-- 'pg.LawS4188CSequence': WHATEVER THE INPUT: true; the input reads as it did. -/
def lawS4188CSequenceSpec : ChangeSpec := { name := "lawS4188CSequence", vars := ["example.com/votekeeper/votekeeper/pkg/pg.errShort"], fn := fun _ => fun
  | [d1, d2, g1] => { results := [.lit (.bool true)], args := [d1, d2], vars := [g1] }
  | _ => none }
def lawS4188CSequenceRow : OpenClaim := { program := "ybulkchscdoor", sum := "d70d450149e8248288cf7af744ff4281e4331eca25b9e28b17bb5120d402cd7b", func := "example.com/votekeeper/votekeeper/pkg/pg.LawS4188CSequence", spec := "lawS4188CSequence", named := ["example.com/votekeeper/votekeeper/pkg/pg.errShort"], ifaces := true, apart := false, laid := [("example.com/votekeeper/votekeeper/pkg/pg.errShort", laid_example_com_votekeeper_votekeeper_pkg_pg_errShort)] }
def LawS4188CSequenceSaid : Prop := lawS4188CSequenceRow.holds Ybad.pinned (OpenSpec.ofChange lawS4188CSequenceSpec)

/-- ITS FALSE NEIGHBOUR: 'it returns false'. Refute it at one input. -/
def lawS4188CSequenceWrong : ChangeSpec := { name := "lawS4188CSequence", vars := ["example.com/votekeeper/votekeeper/pkg/pg.errShort"], fn := fun _ => fun
  | [d1, d2, g1] => { results := [.lit (.bool false)], args := [d1, d2], vars := [g1] }
  | _ => none }
def LawS4188CSequenceWrongFalsely : Prop := lawS4188CSequenceRow.holds Ybad.pinned (OpenSpec.ofChange lawS4188CSequenceWrong)

end Rows
end Go.Proofs.YbulkchscDoor
