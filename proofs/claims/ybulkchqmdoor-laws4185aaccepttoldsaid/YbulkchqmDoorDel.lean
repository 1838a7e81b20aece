/-
  THE SEAT b4185aD: nodeSet.ids at a set of zeros (27), the closure of allBut (26), IndexFunc (32), Clone (25), DeleteFunc (24).
-/
import Derived.Test.YbulkchqmDoorSets
namespace Go.Proofs.YbulkchqmDoor
open Go.RowKit
set_option linter.unusedVariables false

theorem ids_zero (b m : Nat) (w : World) (hm : m ≤ 1024) (hc : ∀ j, j < m → w.cell? ⟨b, j, none⟩ = some (.int .u64 0)) :
    Calls Ybad.prog 27 #[.slice (some ⟨b, 0, none⟩) m m] w fun e w' => e = .returned (.slice none 0 0) ∧ w' = w := by
  go_enter Ybad.func27, Ybad.ntmps27
  go_wp2
  go_loop [3, 8] (fun v i => ∃ k : Nat, k ≤ m ∧ i = .int .i64 k ∧ v = .slice none 0 0) (fun _ i => m - (intOf i).toNat)
  case atStart => exact ⟨0, Nat.zero_le _, rfl, rfl⟩
  case round =>
    obtain ⟨k, hk, rfl, rfl⟩ := hrel
    by_cases hlt : k < m
    · have h3 := hc k hlt
      clear hc
      go_wp2
      refine wp_loop_rounds 1 ?_
      rw [rounds_succ]
      go_wp2
      go_round
      case rel => exact ⟨k + 1, by omega, by go_num, rfl⟩
      case measure => simp [intOf]; omega
    · go_wp2
      go_ret
      exact ⟨rfl, rfl⟩

theorem clos (u x : Int) (b : Nat) (w : World) (hc : w.cell? ⟨b, 0, none⟩ = some (.int .i64 x)) :
    Calls Ybad.prog 26 #[.int .i64 u, .pointer (some ⟨b, 0, none⟩)] w fun e w' => e = .returned (.bool (u == x)) ∧ w' = w := by
  go_enter Ybad.func26, Ybad.ntmps26
  go_wp2
  go_ret
  exact ⟨rfl, rfl⟩

theorem index_any (g cap n b : Nat) (x : Int) (xs : List Int) (w : World) (hn : n ≤ 100000) (hx : w.cell? ⟨b, 0, none⟩ = some (.int .i64 x))
    (hc : ∀ j, j < n → w.cell? ⟨g, j, none⟩ = some (.int .i64 (xs.getD j 0))) :
    Calls Ybad.prog 32 #[.slice (some ⟨g, 0, none⟩) n cap, .func (.func 26) #[] #[.pointer (some ⟨b, 0, none⟩)]] w fun e w' =>
      (∃ r : Int, e = .returned (.int .i64 r) ∧ ((∃ i : Nat, r = i ∧ i < n ∧ xs.getD i 0 = x ∧ ∀ j, j < i → xs.getD j 0 ≠ x) ∨ (r = -1 ∧ (∀ j, j < n → xs.getD j 0 ≠ x)))) ∧ w' = w := by
  go_enter Ybad.func32, Ybad.ntmps32
  go_wp2
  go_loop [8] (fun i => ∃ k : Nat, k ≤ n ∧ i = .int .i64 k ∧ ∀ j, j < k → xs.getD j 0 ≠ x) (fun i => n - (intOf i).toNat)
  case atStart => exact ⟨0, Nat.zero_le _, rfl, fun j hj => by omega⟩
  case round =>
    obtain ⟨k, hk, rfl, hno⟩ := hrel
    have HNO : Hid (∀ j, j < k → xs.getD j 0 ≠ x) := hno
    clear hno
    by_cases hlt : k < n
    · have h3 := hc k hlt
      clear hc
      obtain ⟨u, hu⟩ : ∃ u, u = xs.getD k 0 := ⟨_, rfl⟩
      rw [← hu] at h3
      have HU : Hid (u = xs.getD k 0) := hu
      clear hu
      by_cases hux : u = x
      · have HX : Hid (u = x) := hux
        have hb : (u == x) = true := by simpa using hux
        clear hux
        go_wp2_with (go_at_call 26; refine (clos _ _ _ _ hx).mono ?_; rintro e w' ⟨rfl, rfl⟩)
        go_ret
        exact ⟨⟨_, rfl, .inl ⟨k, rfl, hlt, HU.out ▸ HX.out, HNO.out⟩⟩, rfl⟩
      · have HX : Hid (¬ u = x) := hux
        have hb : (u == x) = false := by simpa using hux
        clear hux
        go_wp2_with (go_at_call 26; refine (clos _ _ _ _ hx).mono ?_; rintro e w' ⟨rfl, rfl⟩)
        go_round
        case rel =>
          refine ⟨k + 1, by omega, by go_num, fun j hj => ?_⟩
          rcases Nat.lt_or_ge j k with h | h
          · exact HNO.out j h
          · obtain rfl : j = k := by omega
            rw [← HU.out]; exact HX.out
        case measure => simp [intOf]; omega
    · go_wp2
      go_ret
      exact ⟨⟨_, rfl, .inr ⟨rfl, fun j hj => HNO.out j (by omega)⟩⟩, rfl⟩

/-- those of the first j numbers that are not x. -/
def keepTo (xs : List Int) (x : Int) (j : Nat) : List Int := (xs.take j).filter (fun u => !(u == x))

theorem keepTo_hit (xs : List Int) (x : Int) (j : Nat) (hj : j < xs.length) (h : xs.getD j 0 = x) : keepTo xs x (j + 1) = keepTo xs x j := by
  unfold keepTo
  rw [List.take_succ_eq_append_getElem hj, List.filter_append]
  have e : xs[j] = x := by simpa [List.getD_eq_getElem?_getD, List.getElem?_eq_getElem hj] using h
  simp [e]

theorem keepTo_miss (xs : List Int) (x : Int) (j : Nat) (hj : j < xs.length) (h : ¬ xs.getD j 0 = x) : keepTo xs x (j + 1) = keepTo xs x j ++ [xs.getD j 0] := by
  unfold keepTo
  rw [List.take_succ_eq_append_getElem hj, List.filter_append]
  have e : xs.getD j 0 = xs[j] := by simp [List.getD_eq_getElem?_getD, List.getElem?_eq_getElem hj]
  rw [e] at h ⊢
  simp [h]

theorem keepTo_none (xs : List Int) (x : Int) : ∀ j, j ≤ xs.length → (∀ i, i < j → xs.getD i 0 ≠ x) → keepTo xs x j = xs.take j
  | 0, _, _ => by simp [keepTo]
  | j + 1, hj, h => by
    rw [keepTo_miss xs x j (by omega) (h j (by omega)), keepTo_none xs x j (by omega) (fun i hi => h i (by omega)), List.take_succ_eq_append_getElem (by omega)]
    simp [List.getD_eq_getElem?_getD, List.getElem?_eq_getElem (show j < xs.length by omega)]

theorem keepTo_le (xs : List Int) (x : Int) (j : Nat) : (keepTo xs x j).length ≤ j :=
  Nat.le_trans (List.length_filter_le _ _) (List.length_take_le _ _)

/-- WHAT THE LOOP OF DeleteFunc HAS DONE TO THE ROW g BEHIND j NUMBERS. -/
def DelRel (w wr : World) (g n : Nat) (xs : List Int) (x : Int) (j : Nat) : Prop :=
  w.grownBy wr (some g) ∧ wr.heap.size = w.heap.size ∧ ∃ ys : List Int, ys.length = n ∧ (∀ i, i < n → wr.cell? ⟨g, i, none⟩ = some (.int .i64 (ys.getD i 0))) ∧ (∀ i, i < n → wr.frozen? ⟨g, i, none⟩ = false) ∧
    ys.take (keepTo xs x j).length = keepTo xs x j ∧ ∀ i, j ≤ i → i < n → ys.getD i 0 = xs.getD i 0

end Go.Proofs.YbulkchqmDoor
