/-
  THE SEAT b4188aD: LawS4188CExact (3): the arm that takes k bytes.
-/
import Derived.Test.YbulkchscDoorEx
namespace Go.Proofs.YbulkchscDoor
open Go.RowKit
set_option linter.unusedVariables false

set_option maxHeartbeats 1000000 in
theorem exact_good (a : Option Addr) (cap : Nat) (xs : List Int) (k : Nat) (ea : Addr) (w : World) (hx : HoldsI w (.slice a xs.length cap) xs) (hcap : xs.length ≤ cap) (hL : xs.length ≤ 1024)
    (hg : w.cell? ⟨0, 0, none⟩ = some (.iface 31 (.pointer (some ea)))) (hn : k ≤ xs.length) :
    Calls Ybad.prog 3 #[.slice a xs.length cap, .int .i64 k] w fun e w' => e = .returned (.bool true) ∧ Below w.heap.size w w' := by
  obtain ⟨i5, hi, hz0, hz1, hz2⟩ := info_parts info5
  have HX : Hid (HoldsI w (.slice a xs.length cap) xs) := hx
  have HG : Hid (w.cell? ⟨0, 0, none⟩ = some (.iface 31 (.pointer (some ea)))) := hg
  have c1 : ¬ (1024 : Int) < (xs.length : Int) := by omega
  clear hx hg
  go_enter Ybad.func3, Ybad.ntmps3
  go_wp2_with (at_make; refine wpList_make_full _ rfl _ _ 22 rfl w.heap.size 5 i5 (.int .u8 0) 1 Ybad.underlying22 hi hz0 hz1 .i64 .i64 _ _ xs.length rfl rfl rfl rfl (by rw [hz2]; omega) (by unfold maxLen; omega) (Nat.le_refl _) ?_)
  intro w1 hown1 hg1
  have hh1 := own_cur hown1
  have hmc : (madeCells #[Value.int .u8 0] xs.length).toList = List.replicate xs.length (.int .u8 0) := toList_madeCells_one _ _
  rw [hmc] at hh1
  have hb1 : Below w.heap.size w w1 := (Below.refl _ _).grown hg1 (Nat.le_refl _) (by intro k hk; cases hk)
  obtain ⟨w2, hrun2, hh2, hb2⟩ := copy_ex (a := a) (cap := cap) hh1 (holds_later (fun a u h => cell_later hb1 h) HX.out) hb1 (Nat.le_refl _)
  have hsz : w.heap.size < w2.heap.size := (Array.getElem?_eq_some_iff.1 hh2).1
  have HB2 : Hid (Below w.heap.size w w2) := hb2
  have HC : Hid (∀ v, HoldsI (w2.alloc (.cells #[v] 23)) (.slice (some ⟨w.heap.size, 0, none⟩) xs.length xs.length) xs) := fun v => boxed hh2
  have HA : Hid (∀ o, HoldsI (w2.alloc o) (.slice a xs.length cap) xs) := fun o => holds_later (fun a u h => Lib.cell?_alloc_some _ (cell_later hb2 h)) HX.out
  have HE : Hid (∀ o, (w2.alloc o).cell? ⟨0, 0, none⟩ = some (.iface 31 (.pointer (some ea)))) := fun o => Lib.cell?_alloc_some _ (cell_later hb2 HG.out)
  clear hown1 hg1 hb1 hh1 hmc hh2 hb2
  go_wp2_with (go_at_call 5; refine (bytes_good _ w.heap.size 0 xs.length xs.length k _ (by unfold maxLen; omega) (Nat.le_refl _) hn (by simp) (by simp)).mono ?_)
  rintro e w3 ⟨rfl, o', hw3, ho'⟩
  have hsame : ∀ a u, (w2.alloc (.cells #[.slice (some ⟨w.heap.size, 0, none⟩) xs.length xs.length] 23)).cell? a = some (.int .u8 u) → w3.cell? a = some (.int .u8 u) := by
    rw [hw3]; exact store_keeps (v0 := .slice (some ⟨w.heap.size, 0, none⟩) xs.length xs.length) (by simp) (fun u h => by cases h)
  have HB3 : Hid (Below w.heap.size w w3) := by rw [hw3]; exact (HB2.out.alloc (by omega) _).setCell (by simp; omega) _
  have k3 : w3.cell? ⟨w2.heap.size, 0, none⟩ = some (.slice (some ⟨w.heap.size, o', none⟩) (xs.length - k) (xs.length - k)) := by rw [hw3]; exact World.cell?_setCell_same _ _ (v := _) (u := .slice (some ⟨w.heap.size, 0, none⟩) xs.length xs.length) (by simp)
  have hC3 := holds_later hsame (HC.out _)
  have hA3 := holds_later hsame (HA.out _)
  have HC3 : Hid (HoldsI w3 (.slice (some ⟨w.heap.size, 0, none⟩) xs.length xs.length) xs) := hC3
  have HA3 : Hid (HoldsI w3 (.slice a xs.length cap) xs) := hA3
  have HV3 : Hid (HoldsI w3 (.slice (some ⟨w.heap.size, 0, none⟩) k xs.length) (xs.take k)) := holds_take hC3 hn
  have HD3 : Hid (HoldsI w3 (.slice (some ⟨w.heap.size, o', none⟩) (xs.length - k) (xs.length - k)) (xs.drop k)) := holds_drop hC3 ho'
  obtain ⟨a1, hrun1, hh1⟩ := cut_to hA3 hn hcap
  obtain ⟨a2, hrun2', hh2⟩ := cut_from hA3 hn hcap
  have H1 : Hid (HoldsI w3 (.slice a1 k cap) (xs.take k)) := hh1
  have H2 : Hid (HoldsI w3 (.slice a2 (xs.length - k) (cap - k)) (xs.drop k)) := hh2
  have hz : ((xs.length - k : Nat) : Int) = (xs.length : Int) - k := by omega
  have hz2 : (((xs.length - k : Nat) : Int) != (xs.length : Int) - k) = false := by simp [hz]
  have hk1 : ¬ (k : Int) < 0 := by omega
  have hk2 : ¬ (xs.length : Int) < (k : Int) := by omega
  clear hz hsame hw3 ho' hC3 hA3 hh1 hh2 HC HA HE HB2 HX HG hrun2
  go_wp2
  go_quiet ((go_at_call 6; first | exact Calls.quiet_of (eq_any _ _ (xs.take k) _ (by unfold maxLen; simp; omega) HV3.out H1.out) | exact Calls.quiet_of (eq_any _ _ (xs.drop k) _ (by unfold maxLen; simp; omega) HD3.out H2.out) | exact Calls.quiet_of (eq_any _ _ xs _ (by unfold maxLen; omega) HC3.out HA3.out)))
  go_wp2
  go_ret
  exact ⟨rfl, below_drewN HB3.out _⟩

end Go.Proofs.YbulkchscDoor
