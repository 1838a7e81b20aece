/-
  THE SEAT b4188aD: what both rows share: the listed variable, slices that came in, the witness's heap.
-/
import Derived.Test.YbulkchscDoorTie
import Derived.Test.YbulkchscDoorCards
import Derived.Test.YbulkchscDoorParts
import Derived.ProofKit
import Derived.OpenShut
import Derived.ChangeOld
import Derived.Below
import Derived.LaidMore
import Derived.Stop.Joined
import Derived.Stop.LaidErr
import Derived.SevenTiedAt
namespace Go.Proofs.YbulkchscDoor
open Go.ChangeShapes Go.WideShapes Go.ChangeAt Go.RowKit
open Go.Extern.Stop Go.Stop Go.Extern
set_option linter.unusedVariables false

theorem own : ownKnob Ybad.prog.godebug = none := by kernel_rfl
theorem laidOut : laidOutB Ybad.prog = true := by kernel_rfl
theorem gE : Ybad.prog.globalNamed "example.com/votekeeper/votekeeper/pkg/pg.errShort" = some 0 := by kernel_rfl
theorem gEType : (Ybad.prog.globals[0]?).map (·.type) = some 25 := by kernel_rfl
theorem cells52 : Ybad.prog.cellsOf 52 = 1 := by kernel_rfl
theorem cells9 : Ybad.prog.cellsOf 9 = 1 := by kernel_rfl
theorem star : "*" ++ "errors.errorString" = "*errors.errorString" := by decide
theorem row31 (u : TypeId) (h : Ybad.prog.typeName? 3 u = some "*errors.errorString") : u = 31 :=
  typeName_ptr_named (nm := "errors.errorString") (by rw [star]; kernel_rfl) (by kernel_rfl) (by decide) u (by rw [star]; exact h)

abbrev laid1 : List (String × DataW Unit) := [("example.com/votekeeper/votekeeper/pkg/pg.errShort", Rows.laid_example_com_votekeeper_votekeeper_pkg_pg_errShort)]

/-- the door's own heap meets the condition. -/
theorem door_met (os : Os) (args : Array Value) : laidMetH Ybad.prog laid1 ((World.doorLaid Ybad.prog 400 os).forCall (fun _ _ => 0) ⟨#[], args, []⟩).memory :=
  laidMetH_of_parts3 (fuel := 8) (laidMet_of_run' 8 (by kernel_rfl) (by kernel_rfl)) (by kernel_rfl) (by kernel_rfl)

/-- WHAT THE CONDITION GIVES: the variable's cell. -/
theorem of_laid {W : World} (h : laidMetH Ybad.prog laid1 W) : ∃ a, W.var? Ybad.prog "example.com/votekeeper/votekeeper/pkg/pg.errShort" = some #[.iface 31 (.pointer (some a))] ∧ W.cell? ⟨0, 0, none⟩ = some (.iface 31 (.pointer (some a))) ∧ 0 < W.heap.size := by
  rw [MakeChecks.laidMetH_plain _ _ _ (by kernel_rfl)] at h
  obtain ⟨a1, s1, hv1, hc1, hs1, hz1⟩ := laid_sentinel h gE gEType Ybad.underlying25 row31 Ybad.underlying31 Ybad.underlying52 rfl rfl Ybad.underlying9 cells52 cells9
  have hg1 : W.cell? ⟨0, 0, none⟩ = some (.iface 31 (.pointer (some a1))) := by simpa using World.var?_cell gE hv1 0
  refine ⟨a1, hv1, hg1, ?_⟩
  rcases Nat.lt_or_ge 0 W.heap.size with h | h
  · exact h
  · simp [World.cell?, Array.getElem?_eq_none h] at hg1

theorem var?_below' {P : Program} {B g : Nat} {W W' : World} {n : String} {cs : Array Value} (h : Below B W W') (hg : P.globalNamed n = some g) (hgB : g < B) (hv : W.var? P n = some cs) : W'.var? P n = some cs := by
  unfold World.var? at hv ⊢
  simp only [hg, Option.bind_some] at hv ⊢
  rw [h.block g hgB]
  exact hv

/-- WHAT THE WALK IS TOLD OF A SLICE OF INTEGERS THAT CAME IN: it is nil; or it leads to a row of 'cap' cells, the numbers 'zs'. -/
def IsRow (k : IntKind) (w : World) (a : Option Addr) (len cap : Nat) (zs : List Int) : Prop :=
  (a = none ∧ len = 0 ∧ cap = 0 ∧ zs = []) ∨
  ∃ x, a = some x ∧ len ≤ cap ∧ cap ≤ maxLen ∧ zs.length = cap ∧ (∀ i, i < zs.length → w.cell? (x.add i) = some (.int k (zs.getD i 0))) ∧ ∀ n ∈ zs, (Lit.int k n).wf = true

theorem IsRow.holds {w : World} {a : Option Addr} {len cap : Nat} {zs : List Int} (h : IsRow .u8 w a len cap zs) : len ≤ maxLen ∧ len ≤ cap ∧ (zs.take len).length = len ∧ HoldsI w (.slice a len cap) (zs.take len) ∧ ∀ n ∈ zs.take len, (Lit.int .u8 n).wf = true := by
  rcases h with ⟨rfl, rfl, rfl, rfl⟩ | ⟨x, rfl, hl, hm, hz, hc, hw⟩
  · exact ⟨by unfold maxLen; omega, Nat.le_refl _, rfl, ⟨none, 0, rfl, .inl rfl⟩, fun n hn => by simp at hn⟩
  · have hlen : (zs.take len).length = len := by simp; omega
    refine ⟨by omega, hl, hlen, ⟨some x, cap, by rw [hlen], ?_⟩, fun n hn => hw n (List.mem_of_mem_take hn)⟩
    by_cases h0 : len = 0
    · exact .inl (by rw [h0]; rfl)
    · obtain ⟨b, off, rfl, hcc⟩ := ints_at hc (by omega)
      refine .inr ⟨b, off, rfl, fun j hj => ?_⟩
      rw [hlen] at hj
      have := hcc j (by omega)
      simp only [List.getD_eq_getElem?_getD] at this ⊢
      rw [List.getElem?_take_of_lt hj]; exact this

end Go.Proofs.YbulkchscDoor
