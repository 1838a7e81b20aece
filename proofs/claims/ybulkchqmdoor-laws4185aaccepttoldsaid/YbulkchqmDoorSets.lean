/-
  THE SEAT b4185aD: newNodeSet (5), nodeSet.add (6), AppendUint16 (28).
-/
import Derived.Test.YbulkchqmDoorBase
import Derived.RegionTactic
import Derived.Laws.AppendOwnNone
import Derived.Maps.AppendAt
namespace Go.Proofs.YbulkchqmDoor
open Go.RowKit
set_option linter.unusedVariables false

theorem newSet (n : Nat) (w : World) (hn : n ≤ 65535) :
    Calls Ybad.prog 5 #[.int .i64 n] w fun e w' => e = .returned (.slice (some ⟨w.heap.size, 0, none⟩) ((n + 63) / 64) ((n + 63) / 64)) ∧
      w'.ownsRow w.heap.size 51 1 (.slice (some ⟨w.heap.size, 0, none⟩) ((n + 63) / 64) ((n + 63) / 64)) ((n + 63) / 64) (List.replicate ((n + 63) / 64) (.int .u64 0)) ∧ w.grownBy w' none := by
  obtain ⟨i0, hi, hz0, hz1, hz2⟩ := info_parts info51
  go_enter Ybad.func5, Ybad.ntmps5
  go_wp2_with (at_make; refine wpList_make_full _ rfl _ _ 27 rfl w.heap.size 51 i0 (.int .u64 0) 1 Ybad.underlying27 hi hz0 hz1 .i64 .i64 _ _ ((n + 63) / 64) rfl rfl (by omega) (by omega) (by rw [hz2]; omega) (by unfold maxLen; omega) (Nat.le_refl _) ?_; intro w1 hown1 hgrow1)
  have hown : w1.ownsRow w.heap.size 51 1 (.slice (some ⟨w.heap.size, 0, none⟩) ((n + 63) / 64) ((n + 63) / 64)) ((n + 63) / 64) (List.replicate ((n + 63) / 64) (.int .u64 0)) := by
    have h := toList_madeCells_one (.int .u64 0) ((n + 63) / 64)
    rw [← h]
    simpa [Value.cells] using hown1
  go_ret
  exact ⟨rfl, hown, hgrow1⟩

theorem and63 (x : Int) : 0 ≤ bits .and .i64 x 63 ∧ bits .and .i64 x 63 ≤ 63 := by
  have h2 : (BitVec.ofInt 64 (63 : Int)).toNat = 63 := by decide
  have h3 : bits .and .i64 x 63 = IntKind.i64.wrap (((BitVec.ofInt 64 x &&& BitVec.ofInt 64 (63 : Int)).toNat : Nat) : Int) := rfl
  have h4 : (BitVec.ofInt 64 x &&& BitVec.ofInt 64 (63 : Int)).toNat ≤ 63 := by
    rw [BitVec.toNat_and, h2]
    exact Nat.and_le_right
  rw [h3, IntKind.wrap_i64]
  omega

theorem add_any (b m id : Nat) (x : Int) (w : World) (hm : m ≤ 1024) (hid : id / 64 < m) (hid2 : id ≤ 65535)
    (hc : w.cell? ⟨b, id / 64, none⟩ = some (.int .u64 x)) (hf : w.frozen? ⟨b, id / 64, none⟩ = false) :
    Calls Ybad.prog 6 #[.slice (some ⟨b, 0, none⟩) m m, .int .i64 id] w fun e w' => e = .returned (.tuple #[]) ∧ ∃ y, w' = (w.setCell ⟨b, id / 64, none⟩ (.int .u64 y)).drew := by
  have h63 := and63 id
  obtain ⟨q1, q2⟩ := h63
  have hi1 : (0 : Int) ≤ (id : Int) / 64 := by omega
  have hi2 : (id : Int) / 64 < (m : Int) := by omega
  have hi3 : ((id : Int) / 64).toNat = id / 64 := by omega
  go_enter Ybad.func6, Ybad.ntmps6
  go_wp2
  go_region
  all_goals (go_end0; exact ⟨rfl, _, rfl⟩)

theorem app16 (v : Value) (n : Nat) (xs : List Value) (x : Int) (B : Nat) (w : World) (hown : w.ownsRow B 5 1 v n xs) (hB : B ≤ w.heap.size) (hn : n ≤ 100000) (hx : 0 ≤ x) (hx2 : x ≤ 65535) :
    Calls Ybad.prog 28 #[.agg #[], v, .int .u16 x] w fun e w' => ∃ v', e = .returned v' ∧ w'.ownsRow B 5 1 v' (n + 2) (xs ++ [.int .u8 (x / 256), .int .u8 (x % 256)]) ∧ w.grownBy w' v.ownBlock := by
  obtain ⟨i0, hi, hz0, hz1, hz2⟩ := info_parts info5
  have hu : IntKind.u8.wrap (x / 256) = x / 256 := by rw [IntKind.wrap_u8]; omega
  have hu2 : IntKind.u8.wrap x = x % 256 := by rw [IntKind.wrap_u8]
  have hnew : ∀ j u, [Value.int .u8 (x / 256), .int .u8 (x % 256)][j]? = some u → ((w.alloc (.cells #[] 104)).alloc (.cells #[.int .u8 (x / 256), .int .u8 (x % 256)] 5)).cell? ((⟨w.heap.size + 1, 0, none⟩ : Addr).add j) = some u := by
    have := cell_two_new (w.alloc (.cells #[] 104)) (.int .u8 (x / 256)) (.int .u8 (x % 256)) 5
    rw [World.size_alloc] at this
    exact this
  go_enter Ybad.func28, Ybad.ntmps28
  go_wp2_with (at_builtin; refine wpList_append_own _ rfl _ _ 22 rfl B 5 i0 (.int .u8 0) 1 1 Ybad.underlying22 hi hz0 hz1 hz2 rfl (by decide) v n xs rfl ((hown.alloc _).alloc _) ⟨w.heap.size + 1, 0, none⟩ 2 2 [.int .u8 (x / 256), .int .u8 (x % 256)] rfl rfl hnew (by simp [Value.oneCell']) (by unfold maxLen; omega) (by omega) (by simp; omega) ?_; intro v' w1 hown1 hgrow1 hnil1)
  go_ret
  exact ⟨_, rfl, hown1, ((World.grownBy_alloc _ _ _).trans (World.grownBy_alloc _ _ _)).trans hgrow1⟩

end Go.Proofs.YbulkchqmDoor
