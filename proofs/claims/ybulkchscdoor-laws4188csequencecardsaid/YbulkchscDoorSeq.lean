/-
  THE SEAT b4188aD: LawS4188CSequence (4): the walk.
-/
import Derived.Test.YbulkchscDoorEx
namespace Go.Proofs.YbulkchscDoor
open Go.RowKit
set_option linter.unusedVariables false

theorem seq_long (a a1 : Option Addr) (L cap M cap1 : Nat) (w : World) (h1 : L ≤ maxLen) (h2 : M ≤ maxLen) (h : 1024 < L ∨ 1024 < M) :
    Calls Ybad.prog 4 #[.slice a L cap, .slice a1 M cap1] w fun e w' => e = .returned (.bool true) ∧ w' = w := by
  unfold maxLen at h1 h2
  by_cases hl : 1024 < L
  · have h' : (1024 : Int) < (L : Int) := by omega
    go_enter Ybad.func4, Ybad.ntmps4
    go_wp2
    go_ret
    exact ⟨rfl, rfl⟩
  · have h' : ¬ (1024 : Int) < (L : Int) := by omega
    have h3 : (1024 : Int) < (M : Int) := by omega
    go_enter Ybad.func4, Ybad.ntmps4
    go_wp2
    go_ret
    exact ⟨rfl, rfl⟩

/-- WHAT STANDS AT A ROUND's HEAD. -/
def SeqRel (w : World) (bb g : Nat) (xs ys : List Int) (ea : Addr) (a : Option Addr) (cap : Nat) (a1 : Option Addr) (cap1 : Nat) (pv iv : Value) (wr : World) : Prop :=
  ∃ p i o' : Nat, p ≤ xs.length ∧ i ≤ ys.length ∧ pv = .int .i64 p ∧ iv = .int .i64 i ∧ wr.cell? ⟨bb, 0, none⟩ = some (.slice (some ⟨g, o', none⟩) (xs.length - p) (xs.length - p)) ∧ wr.frozen? ⟨bb, 0, none⟩ = false ∧
    HoldsI wr (.slice (some ⟨g, o', none⟩) (xs.length - p) (xs.length - p)) (xs.drop p) ∧
    HoldsI wr (.slice (some ⟨g, 0, none⟩) xs.length xs.length) xs ∧ HoldsI wr (.slice a xs.length cap) xs ∧ HoldsI wr (.slice a1 ys.length cap1) ys ∧
    wr.cell? ⟨0, 0, none⟩ = some (.iface 31 (.pointer (some ea))) ∧ Below w.heap.size w wr

set_option maxHeartbeats 2000000 in
theorem seq_main (a a1 : Option Addr) (cap cap1 : Nat) (xs ys : List Int) (ea : Addr) (w : World) (hx : HoldsI w (.slice a xs.length cap) xs) (hy : HoldsI w (.slice a1 ys.length cap1) ys) (hcap : xs.length ≤ cap) (hL : xs.length ≤ 1024) (hM : ys.length ≤ 1024)
    (hyb : ∀ j, ∃ y : Nat, ys.getD j 0 = (y : Int) ∧ y ≤ 255)
    (hg : w.cell? ⟨0, 0, none⟩ = some (.iface 31 (.pointer (some ea)))) :
    Calls Ybad.prog 4 #[.slice a xs.length cap, .slice a1 ys.length cap1] w fun e w' => e = .returned (.bool true) ∧ Below w.heap.size w w' := by
  obtain ⟨i5, hi, hz0, hz1, hz2⟩ := info_parts info5
  have HX : Hid (HoldsI w (.slice a xs.length cap) xs) := hx
  have HY : Hid (HoldsI w (.slice a1 ys.length cap1) ys) := hy
  have HG : Hid (w.cell? ⟨0, 0, none⟩ = some (.iface 31 (.pointer (some ea)))) := hg
  have c1 : ¬ (1024 : Int) < (xs.length : Int) := by omega
  have c2 : ¬ (1024 : Int) < (ys.length : Int) := by omega
  clear hx hg hy
  go_enter Ybad.func4, Ybad.ntmps4
  go_wp2_with (at_make; refine wpList_make_full _ rfl _ _ 22 rfl w.heap.size 5 i5 (.int .u8 0) 1 Ybad.underlying22 hi hz0 hz1 .i64 .i64 _ _ xs.length rfl rfl rfl rfl (by rw [hz2]; omega) (by unfold maxLen; omega) (Nat.le_refl _) ?_)
  intro w1 hown1 hg1
  have hh1 := own_cur hown1
  have hmc : (madeCells #[Value.int .u8 0] xs.length).toList = List.replicate xs.length (.int .u8 0) := toList_madeCells_one _ _
  rw [hmc] at hh1
  have hb1 : Below w.heap.size w w1 := (Below.refl _ _).grown hg1 (Nat.le_refl _) (by intro k hk; cases hk)
  obtain ⟨w2, hrun2, hh2, hb2⟩ := copy_ex (a := a) (cap := cap) hh1 (holds_later (fun a u h => cell_later hb1 h) HX.out) hb1 (Nat.le_refl _)
  have hsz : w.heap.size < w2.heap.size := (Array.getElem?_eq_some_iff.1 hh2).1
  have HR : Hid (SeqRel w w2.heap.size w.heap.size xs ys ea a cap a1 cap1 (.int .i64 0) (.int .i64 0) (w2.alloc (.cells #[.slice (some ⟨w.heap.size, 0, none⟩) xs.length xs.length] 23))) :=
    ⟨0, 0, 0, Nat.zero_le _, Nat.zero_le _, rfl, rfl, by simp, by simp, boxed hh2, boxed hh2, holds_later (fun a u h => Lib.cell?_alloc_some _ (cell_later hb2 h)) HX.out, holds_later (fun a u h => Lib.cell?_alloc_some _ (cell_later hb2 h)) HY.out, Lib.cell?_alloc_some _ (cell_later hb2 HG.out), hb2.alloc (by omega) _⟩
  have hsz' : w.heap.size ≤ w2.heap.size := by omega
  clear hown1 hg1 hb1 hh1 hmc hh2 hb2 HX HY HG
  go_wp2
  go_loopw [7, 8] (fun pv iv wr => SeqRel w w2.heap.size w.heap.size xs ys ea a cap a1 cap1 pv iv wr) (fun _ iv _ => ys.length - (intOf iv).toNat)
  case atStart => exact HR.out
  case round =>
    clear HR hrun2 hsz
    generalize w2.heap.size = bb at *
    obtain ⟨p, i, o', hp, hi', rfl, rfl, hb, hf, HB, HC, HA, HS, hg, hbel⟩ := hrel
    have HB' : Hid (HoldsI _ (.slice (some ⟨w.heap.size, o', none⟩) (xs.length - p) (xs.length - p)) (xs.drop p)) := HB
    have HC' : Hid (HoldsI _ (.slice (some ⟨w.heap.size, 0, none⟩) xs.length xs.length) xs) := HC
    have HA' : Hid (HoldsI _ (.slice a xs.length cap) xs) := HA
    have HS' : Hid (HoldsI _ (.slice a1 ys.length cap1) ys) := HS
    have HL' : Hid (Below w.heap.size w _) := hbel
    clear HB HC HA HS hbel
    by_cases hlt : i < ys.length
    · have h5 : (i : Int) < (ys.length : Int) := by omega
      have hs := HS'.out
      obtain ⟨ao, c, hv, hs⟩ := hs
      simp only [Value.slice.injEq, true_and] at hv
      obtain ⟨rfl, rfl⟩ := hv
      rcases hs with rfl | ⟨b1, off1, rfl, hs⟩
      · simp at hlt
      have hcell := hs i hlt
      obtain ⟨y, hy, hy2⟩ := hyb i
      rw [hy] at hcell
      obtain ⟨k, hk⟩ : ∃ k : Nat, (y : Int) % 8 = (k : Int) := ⟨y % 8, by omega⟩
      clear hs hyb
      by_cases hfit : k ≤ xs.length - p
      · have hkk : ¬ (xs.length : Int) - p < k := by omega
        go_wp2_with (go_at_call 5; refine (bytes_good bb w.heap.size o' (xs.length - p) (xs.length - p) k wr (by unfold maxLen; omega) (Nat.le_refl _) hfit hb hf).mono ?_)
        first | rintro e w3 rfl o2 hw3 ho2 | rintro e w3 ⟨rfl, o2, hw3, ho2⟩
        have hsame : ∀ a u, wr.cell? a = some (.int .u8 u) → w3.cell? a = some (.int .u8 u) := by
          rw [hw3]; exact store_keeps hb (fun u h => by cases h)
        have hb3 : w3.cell? ⟨bb, 0, none⟩ = some (.slice (some ⟨w.heap.size, o2, none⟩) (xs.length - p - k) (xs.length - p - k)) := by rw [hw3]; exact World.cell?_setCell_same _ _ (v := _) (u := _) hb
        have hf3 : w3.frozen? ⟨bb, 0, none⟩ = false := by rw [hw3, World.frozen?_setCell]; exact hf
        have hg3 : w3.cell? ⟨0, 0, none⟩ = some (.iface 31 (.pointer (some ea))) := by
          rw [hw3, World.cell?_setCell_other _ _ _ _ (fun e => by have hg' := hg; rw [← e] at hg'; rw [hb] at hg'; cases hg')]; exact hg
        have HL3 : Hid (Below w.heap.size w w3) := by rw [hw3]; exact HL'.out.setCell hsz' _
        have HC3 : Hid (HoldsI w3 (.slice (some ⟨w.heap.size, 0, none⟩) xs.length xs.length) xs) := holds_later hsame HC'.out
        have hA3 := holds_later hsame HA'.out
        have HA3 : Hid (HoldsI w3 (.slice a xs.length cap) xs) := hA3
        have HS3 : Hid (HoldsI w3 (.slice (some ⟨b1, off1, none⟩) ys.length cap1) ys) := holds_later hsame HS'.out
        have hB3 := holds_later hsame HB'.out
        have HV3 : Hid (HoldsI w3 (.slice (some ⟨w.heap.size, o', none⟩) k (xs.length - p)) ((xs.drop p).take k)) := holds_take hB3 hfit
        have hD3 := holds_drop (cp' := xs.length - p - k) hB3 ho2
        rw [List.drop_drop] at hD3
        have HD3 : Hid (HoldsI w3 (.slice (some ⟨w.heap.size, o2, none⟩) (xs.length - p - k) (xs.length - p - k)) (xs.drop (p + k))) := hD3
        obtain ⟨a1', hrun1, hh1⟩ := cut_mid (lo := p) (hi := p + k) hA3 (by omega) (by omega) hcap
        obtain ⟨a2', hrun2', hh2⟩ := cut_from (lo := p + k) hA3 (by omega) hcap
        rw [List.drop_take, Nat.add_sub_cancel_left] at hh1
        simp only [Nat.add_sub_cancel_left, Int.natCast_add] at hrun1 hrun2'
        have H1 : Hid (HoldsI w3 (.slice a1' k (cap - p)) ((xs.drop p).take k)) := hh1
        have H2 : Hid (HoldsI w3 (.slice a2' (xs.length - (p + k)) (cap - (p + k))) (xs.drop (p + k))) := hh2
        clear hsame hw3 ho2 hA3 hB3 hD3 hh1 hh2 hb hf hg HB' HC' HA' HS' HL'
        go_wp2_with (go_at_call 6; refine (eq_any _ _ ((xs.drop p).take k) w3 (by unfold maxLen; simp; omega) HV3.out H1.out).mono ?_)
        first | rintro e w4 rfl m4 hw4 | rintro e w4 ⟨rfl, m4, hw4⟩
        have hb4 : w4.cell? ⟨bb, 0, none⟩ = some (.slice (some ⟨w.heap.size, o2, none⟩) (xs.length - p - k) (xs.length - p - k)) := by rw [hw4]; exact hb3
        have hf4 : w4.frozen? ⟨bb, 0, none⟩ = false := by rw [hw4]; exact hf3
        have hg4 : w4.cell? ⟨0, 0, none⟩ = some (.iface 31 (.pointer (some ea))) := by rw [hw4]; exact hg3
        have HL4 : Hid (Below w.heap.size w w4) := by rw [hw4]; exact below_drewN HL3.out _
        have HC4 : Hid (HoldsI w4 (.slice (some ⟨w.heap.size, 0, none⟩) xs.length xs.length) xs) := by rw [hw4]; exact HC3.out
        have HA4 : Hid (HoldsI w4 (.slice a xs.length cap) xs) := by rw [hw4]; exact HA3.out
        have HS4 : Hid (HoldsI w4 (.slice (some ⟨b1, off1, none⟩) ys.length cap1) ys) := by rw [hw4]; exact HS3.out
        have HD4 : Hid (HoldsI w4 (.slice (some ⟨w.heap.size, o2, none⟩) (xs.length - p - k) (xs.length - p - k)) (xs.drop (p + k))) := by rw [hw4]; exact HD3.out
        have H4 : Hid (HoldsI w4 (.slice a2' (xs.length - (p + k)) (cap - (p + k))) (xs.drop (p + k))) := by rw [hw4]; exact H2.out
        clear hw4 HD3 H2 HS3 HA3 HC3 HL3 hg3 hf3 hb3 HV3 H1
        go_wp2
        go_quiet ((go_at_call 6; exact Calls.quiet_of (eq_any _ _ (xs.drop (p + k)) _ (by unfold maxLen; simp; omega) HD4.out H4.out)))
        go_wp2
        go_roundw
        case rel => exact ⟨p + k, i + 1, o2, by omega, by omega, by go_num, by go_num, by rw [Nat.sub_add_eq]; exact hb4, hf4, by rw [Nat.sub_add_eq]; exact HD4.out, HC4.out, HA4.out, HS4.out, hg4, below_drewN HL4.out _⟩
        case measure => simp [intOf]; omega
      · have hkk : (xs.length : Int) - p < k := by omega
        have q1 : ∀ (w : World), (binOp .neq 22 (.slice none 0 0) (.slice none 0 0)).run Ybad.prog w = .ok (.bool false) w := fun w => by kernel_rfl
        have qe := fun w => neE w ea
        go_wp2_with (go_at_call 5; refine (bytes_bad bb ⟨w.heap.size, o', none⟩ (xs.length - p) (xs.length - p) k (.iface 31 (.pointer (some ea))) wr (by unfold maxLen; omega) (.inr (by omega)) hb hg rfl).mono ?_)
        first | rintro e w3 rfl m3 hw3 | rintro e w3 ⟨rfl, m3, hw3⟩
        have hb4 : w3.cell? ⟨bb, 0, none⟩ = some (.slice (some ⟨w.heap.size, o', none⟩) (xs.length - p) (xs.length - p)) := by rw [hw3]; exact hb
        have hf4 : w3.frozen? ⟨bb, 0, none⟩ = false := by rw [hw3]; exact hf
        have hg4 : w3.cell? ⟨0, 0, none⟩ = some (.iface 31 (.pointer (some ea))) := by rw [hw3]; exact hg
        have HL4 : Hid (Below w.heap.size w w3) := by rw [hw3]; exact below_drewN HL'.out _
        have HC4 : Hid (HoldsI w3 (.slice (some ⟨w.heap.size, 0, none⟩) xs.length xs.length) xs) := by rw [hw3]; exact HC'.out
        have HA4 : Hid (HoldsI w3 (.slice a xs.length cap) xs) := by rw [hw3]; exact HA'.out
        have HS4 : Hid (HoldsI w3 (.slice (some ⟨b1, off1, none⟩) ys.length cap1) ys) := by rw [hw3]; exact HS'.out
        have HD4 : Hid (HoldsI w3 (.slice (some ⟨w.heap.size, o', none⟩) (xs.length - p) (xs.length - p)) (xs.drop p)) := by rw [hw3]; exact HB'.out
        obtain ⟨a2', hrun2', hh2⟩ := cut_from (lo := p) HA4.out hp hcap
        have H4 : Hid (HoldsI w3 (.slice a2' (xs.length - p) (cap - p)) (xs.drop p)) := hh2
        clear hh2 hw3 hb hf hg HL' HC' HA' HS' HB'
        go_wp2
        go_quiet ((go_at_call 6; exact Calls.quiet_of (eq_any _ _ (xs.drop p) _ (by unfold maxLen; simp; omega) HD4.out H4.out)))
        go_wp2
        go_roundw
        case rel => exact ⟨p, i + 1, o', by omega, by omega, rfl, by go_num, hb4, hf4, HD4.out, HC4.out, HA4.out, HS4.out, hg4, below_drewN HL4.out _⟩
        case measure => simp [intOf]; omega
    · have h5 : ¬ (i : Int) < (ys.length : Int) := by omega
      go_wp2_with (go_at_call 6; refine (eq_any _ _ xs _ (by unfold maxLen; omega) HC'.out HA'.out).mono ?_)
      first | rintro e w5 rfl m5 hw5 | rintro e w5 ⟨rfl, m5, hw5⟩
      have HB5 : Hid (Below w.heap.size w w5) := by rw [hw5]; exact below_drewN HL'.out m5
      clear hw5
      go_wp2
      go_ret
      exact ⟨rfl, HB5.out⟩

end Go.Proofs.YbulkchscDoor
