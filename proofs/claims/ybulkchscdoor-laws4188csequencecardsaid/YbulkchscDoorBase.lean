/-
  THE SEAT b4188aD: small facts, the word 'HoldsI' (a slice value reads as a list of integers), the contracts of the two callees: zzs4188ceq (6), buffer.bytes (5).
-/
import Derived.Test.YbulkchscDoorRows
import Derived.WalkKit
import Derived.WalkSpells
import Derived.WalkLawsBesides
import Derived.Deep.QuietTactic
import Derived.BigQuiet
import Derived.WalkSmall
import Derived.RegionTactic
import Derived.Lib.SliceRun
namespace Go.Proofs.YbulkchscDoor
open Go.RowKit
set_option linter.unusedVariables false

theorem info5 : (Ybad.prog.info? 5).map (fun i => (i.zero, i.size, i.bytes)) = some (some (.int .u8 0), 1, 1) := by kernel_rfl

/-- THE SLICE VALUE v READS AS THE BYTES xs. -/
def HoldsI (w : World) (v : Value) (xs : List Int) : Prop :=
  ∃ ao cap, v = .slice ao xs.length cap ∧ (xs = [] ∨ ∃ b off, ao = some ⟨b, off, none⟩ ∧ ∀ j, j < xs.length → w.cell? ⟨b, off + j, none⟩ = some (.int .u8 (xs.getD j 0)))

theorem holds_later {w w' : World} {v : Value} {xs : List Int} (hs : ∀ a u, w.cell? a = some (.int .u8 u) → w'.cell? a = some (.int .u8 u)) (h : HoldsI w v xs) : HoldsI w' v xs := by
  obtain ⟨ao, cap, rfl, h⟩ := h
  refine ⟨ao, cap, rfl, ?_⟩
  rcases h with h | ⟨b, off, rfl, hc⟩
  · exact .inl h
  · exact .inr ⟨b, off, rfl, fun j hj => hs _ _ (hc j hj)⟩

theorem eq_nil (ao bo : Option Addr) (ca cb : Nat) (w : World) :
    Calls Ybad.prog 6 #[.slice ao 0 ca, .slice bo 0 cb] w fun e w' => e = .returned (.bool true) ∧ w' = w := by
  go_enter Ybad.func6, Ybad.ntmps6
  go_wp2
  refine wp_loop_rounds 1 ?_
  rw [rounds_succ]
  go_wp2
  go_ret
  exact ⟨rfl, rfl⟩

theorem eq_same (b off c b' off' c' n : Nat) (xs : List Int) (w : World) (h1 : n ≤ maxLen)
    (hx : ∀ j, j < n → w.cell? ⟨b, off + j, none⟩ = some (.int .u8 (xs.getD j 0))) (hy : ∀ j, j < n → w.cell? ⟨b', off' + j, none⟩ = some (.int .u8 (xs.getD j 0))) :
    Calls Ybad.prog 6 #[.slice (some ⟨b, off, none⟩) n c, .slice (some ⟨b', off', none⟩) n c'] w fun e w' => e = .returned (.bool true) ∧ ∃ m, w' = w.drewN m := by
  unfold maxLen at h1
  go_enter Ybad.func6, Ybad.ntmps6
  go_wp2
  go_loopw [5] (fun i wr => ∃ k m : Nat, k ≤ n ∧ i = .int .i64 k ∧ wr = w.drewN m) (fun i _ => n - (intOf i).toNat)
  case atStart => exact ⟨0, 0, Nat.zero_le _, rfl, rfl⟩
  case round =>
    obtain ⟨k, m, hk, rfl, rfl⟩ := hrel
    by_cases hlt : k < n
    · have h3 := hx k hlt
      have h4 := hy k hlt
      have h5 : (k : Int) < (n : Int) := by omega
      clear hx hy
      go_wp2
      go_quiet (fail)
      go_wp2
      go_roundw
      case rel => exact ⟨k + 1, _, by omega, by go_num, rfl⟩
      case measure => simp [intOf]; omega
    · go_wp2
      go_ret
      exact ⟨rfl, _, rfl⟩

theorem eq_any (v v' : Value) (xs : List Int) (w : World) (hl : xs.length ≤ maxLen) (h : HoldsI w v xs) (h' : HoldsI w v' xs) :
    Calls Ybad.prog 6 #[v, v'] w fun e w' => e = .returned (.bool true) ∧ ∃ m, w' = w.drewN m := by
  obtain ⟨ao, cap, rfl, h⟩ := h
  obtain ⟨ao', cap', rfl, h'⟩ := h'
  rcases h with rfl | ⟨b, off, rfl, hx⟩
  · exact (eq_nil ao ao' cap cap' w).mono fun e w' ⟨he, hw⟩ => ⟨he, 0, hw⟩
  rcases h' with rfl | ⟨b', off', rfl, hy⟩
  · exact (eq_nil _ ao' cap cap' w).mono fun e w' ⟨he, hw⟩ => ⟨he, 0, hw⟩
  exact eq_same b off cap b' off' cap' xs.length xs w hl hx hy

/-- bytes(n) that refuses. -/
theorem bytes_bad (bb : Nat) (g : Addr) (l cp : Nat) (n : Int) (ev : Value) (w : World) (hl : l ≤ maxLen) (h : n < 0 ∨ (l : Int) < n) (hc : w.cell? ⟨bb, 0, none⟩ = some (.slice (some g) l cp)) (hg : w.cell? ⟨0, 0, none⟩ = some ev) (he : ev.oneCell' = true) :
    Calls Ybad.prog 5 #[.pointer (some ⟨bb, 0, none⟩), .int .i64 n] w fun e w' => e = .returned (.tuple #[.slice none 0 0, ev]) ∧ ∃ m, w' = w.drewN m := by
  unfold maxLen at hl
  rcases h with h | h
  · go_enter Ybad.func5, Ybad.ntmps5
    go_wp2
    go_quiet (fail)
    go_wp2
    go_ret2
    exact ⟨rfl, _, rfl⟩
  · have h' : ¬ n < 0 := by omega
    go_enter Ybad.func5, Ybad.ntmps5
    go_wp2
    go_quiet (fail)
    go_wp2
    go_ret2
    exact ⟨rfl, _, rfl⟩

/-- bytes(k) that gives: the first k bytes; the rest stays in the buffer. -/
theorem bytes_good (bb g o l cp k : Nat) (w : World) (hl : cp ≤ maxLen) (hlc : l ≤ cp) (hk : k ≤ l) (hc : w.cell? ⟨bb, 0, none⟩ = some (.slice (some ⟨g, o, none⟩) l cp)) (hf : w.frozen? ⟨bb, 0, none⟩ = false) :
    Calls Ybad.prog 5 #[.pointer (some ⟨bb, 0, none⟩), .int .i64 k] w fun e w' => e = .returned (.tuple #[.slice (some ⟨g, o, none⟩) k cp, .nilIface]) ∧ ∃ o', w' = w.setCell ⟨bb, 0, none⟩ (.slice (some ⟨g, o', none⟩) (l - k) (cp - k)) ∧ (l - k ≠ 0 → o' = o + k) := by
  unfold maxLen at hl
  by_cases he : cp = k
  · obtain rfl : l = k := by omega
    subst he
    go_enter Ybad.func5, Ybad.ntmps5
    go_wp2
    go_ret2
    exact ⟨rfl, o, by simp, fun h => absurd (by omega) h⟩
  · go_enter Ybad.func5, Ybad.ntmps5
    go_wp2
    go_ret2
    exact ⟨rfl, o + k, rfl, fun _ => rfl⟩

end Go.Proofs.YbulkchscDoor
