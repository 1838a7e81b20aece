/-
  THE SEAT b4185aD: small facts on the program, the word 'HoldsI' (a slice value reads as a list of integers), and the contracts of the small callees.
-/
import Derived.Test.YbulkchqmDoorRows
import Derived.WalkKit
import Derived.WalkSpells
import Derived.WalkLawsBesides
import Derived.Deep.QuietTactic
import Derived.BigQuiet
import Derived.WalkSmall
namespace Go.Proofs.YbulkchqmDoor
open Go.RowKit
set_option linter.unusedVariables false

theorem cells3 : Ybad.prog.cellsOf 3 = 1 := by kernel_rfl
theorem cells5 : Ybad.prog.cellsOf 5 = 1 := by kernel_rfl
theorem info3 : (Ybad.prog.info? 3).map (fun i => (i.zero, i.size, i.bytes)) = some (some (.int .i64 0), 1, 8) := by kernel_rfl
theorem info5 : (Ybad.prog.info? 5).map (fun i => (i.zero, i.size, i.bytes)) = some (some (.int .u8 0), 1, 1) := by kernel_rfl
theorem info51 : (Ybad.prog.info? 51).map (fun i => (i.zero, i.size, i.bytes)) = some (some (.int .u64 0), 1, 8) := by kernel_rfl

/-- THE SLICE VALUE v READS AS THE INTEGERS xs. -/
def HoldsI (w : World) (k : IntKind) (v : Value) (xs : List Int) : Prop :=
  ∃ ao cap, v = .slice ao xs.length cap ∧ (xs = [] ∨ ∃ b off, ao = some ⟨b, off, none⟩ ∧ ∀ j, j < xs.length → w.cell? ⟨b, off + j, none⟩ = some (.int k (xs.getD j 0)))


theorem eqI_nil (ao bo : Option Addr) (ca cb : Nat) (w : World) :
    Calls Ybad.prog 9 #[.slice ao 0 ca, .slice bo 0 cb] w fun e w' => e = .returned (.bool true) ∧ w' = w := by
  go_enter Ybad.func9, Ybad.ntmps9
  go_wp2
  refine wp_loop_rounds 1 ?_
  rw [rounds_succ]
  go_wp2
  go_ret
  exact ⟨rfl, rfl⟩

theorem eqI_same (b off c b' off' c' n : Nat) (xs : List Int) (w : World) (h1 : n ≤ maxLen)
    (hx : ∀ j, j < n → w.cell? ⟨b, off + j, none⟩ = some (.int .i64 (xs.getD j 0))) (hy : ∀ j, j < n → w.cell? ⟨b', off' + j, none⟩ = some (.int .i64 (xs.getD j 0))) :
    Calls Ybad.prog 9 #[.slice (some ⟨b, off, none⟩) n c, .slice (some ⟨b', off', none⟩) n c'] w fun e w' => e = .returned (.bool true) ∧ ∃ m, w' = w.drewN m := by
  unfold maxLen at h1
  go_enter Ybad.func9, Ybad.ntmps9
  go_wp2
  go_loopw [13] (fun i wr => ∃ k m : Nat, k ≤ n ∧ i = .int .i64 k ∧ wr = w.drewN m) (fun i _ => n - (intOf i).toNat)
  case atStart => exact ⟨0, 0, Nat.zero_le _, rfl, rfl⟩
  case round =>
    obtain ⟨k, m, hk, rfl, rfl⟩ := hrel
    by_cases hlt : k < n
    · have h3 := hx k hlt
      have h4 := hy k hlt
      have h5 : (k : Int) < (n : Int) := by omega
      clear hx hy
      go_wp2
      go_quiet (fail)
      go_wp2
      go_roundw
      case rel => exact ⟨k + 1, _, by omega, by go_num, rfl⟩
      case measure => simp [intOf]; omega
    · go_wp2
      go_ret
      exact ⟨rfl, _, rfl⟩

theorem eqI (v v' : Value) (xs : List Int) (w : World) (hl : xs.length ≤ maxLen) (h : HoldsI w .i64 v xs) (h' : HoldsI w .i64 v' xs) :
    Calls Ybad.prog 9 #[v, v'] w fun e w' => e = .returned (.bool true) ∧ ∃ m, w' = w.drewN m := by
  obtain ⟨ao, cap, rfl, h⟩ := h
  obtain ⟨ao', cap', rfl, h'⟩ := h'
  rcases h with rfl | ⟨b, off, rfl, hx⟩
  · exact (eqI_nil ao ao' cap cap' w).mono fun e w' ⟨he, hw⟩ => ⟨he, 0, hw⟩
  rcases h' with rfl | ⟨b', off', rfl, hy⟩
  · exact (eqI_nil _ ao' cap cap' w).mono fun e w' ⟨he, hw⟩ => ⟨he, 0, hw⟩
  exact eqI_same b off cap b' off' cap' xs.length xs w hl hx hy

theorem eqB_nil (ao bo : Option Addr) (ca cb : Nat) (w : World) :
    Calls Ybad.prog 10 #[.slice ao 0 ca, .slice bo 0 cb] w fun e w' => e = .returned (.bool true) ∧ w' = w := by
  go_enter Ybad.func10, Ybad.ntmps10
  go_wp2
  refine wp_loop_rounds 1 ?_
  rw [rounds_succ]
  go_wp2
  go_ret
  exact ⟨rfl, rfl⟩

theorem eqB_same (b off c b' off' c' n : Nat) (xs : List Int) (w : World) (h1 : n ≤ maxLen)
    (hx : ∀ j, j < n → w.cell? ⟨b, off + j, none⟩ = some (.int .u8 (xs.getD j 0))) (hy : ∀ j, j < n → w.cell? ⟨b', off' + j, none⟩ = some (.int .u8 (xs.getD j 0))) :
    Calls Ybad.prog 10 #[.slice (some ⟨b, off, none⟩) n c, .slice (some ⟨b', off', none⟩) n c'] w fun e w' => e = .returned (.bool true) ∧ ∃ m, w' = w.drewN m := by
  unfold maxLen at h1
  go_enter Ybad.func10, Ybad.ntmps10
  go_wp2
  go_loopw [13] (fun i wr => ∃ k m : Nat, k ≤ n ∧ i = .int .i64 k ∧ wr = w.drewN m) (fun i _ => n - (intOf i).toNat)
  case atStart => exact ⟨0, 0, Nat.zero_le _, rfl, rfl⟩
  case round =>
    obtain ⟨k, m, hk, rfl, rfl⟩ := hrel
    by_cases hlt : k < n
    · have h3 := hx k hlt
      have h4 := hy k hlt
      have h5 : (k : Int) < (n : Int) := by omega
      clear hx hy
      go_wp2
      go_quiet (fail)
      go_wp2
      go_roundw
      case rel => exact ⟨k + 1, _, by omega, by go_num, rfl⟩
      case measure => simp [intOf]; omega
    · go_wp2
      go_ret
      exact ⟨rfl, _, rfl⟩

theorem eqB (v v' : Value) (xs : List Int) (w : World) (hl : xs.length ≤ maxLen) (h : HoldsI w .u8 v xs) (h' : HoldsI w .u8 v' xs) :
    Calls Ybad.prog 10 #[v, v'] w fun e w' => e = .returned (.bool true) ∧ ∃ m, w' = w.drewN m := by
  obtain ⟨ao, cap, rfl, h⟩ := h
  obtain ⟨ao', cap', rfl, h'⟩ := h'
  rcases h with rfl | ⟨b, off, rfl, hx⟩
  · exact (eqB_nil ao ao' cap cap' w).mono fun e w' ⟨he, hw⟩ => ⟨he, 0, hw⟩
  rcases h' with rfl | ⟨b', off', rfl, hy⟩
  · exact (eqB_nil _ ao' cap cap' w).mono fun e w' ⟨he, hw⟩ => ⟨he, 0, hw⟩
  exact eqB_same b off cap b' off' cap' xs.length xs w hl hx hy

end Go.Proofs.YbulkchqmDoor
