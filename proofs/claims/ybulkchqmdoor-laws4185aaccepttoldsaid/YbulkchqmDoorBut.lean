/-
  THE SEAT b4185aD: slices.Clone (25), Config.allBut (14).
-/
import Derived.Test.YbulkchqmDoorDel2
namespace Go.Proofs.YbulkchqmDoor
open Go.RowKit
set_option linter.unusedVariables false

theorem addr_add (b off j : Nat) : (⟨b, off, none⟩ : Addr).add j = ⟨b, off + j, none⟩ := by
  unfold Addr.add
  split <;> simp_all

theorem ints_get (k : IntKind) (xs : List Int) (j : Nat) (hj : j < xs.length) : (xs.map (Value.int k))[j]? = some (.int k (xs.getD j 0)) := by
  simp [List.getElem?_map, List.getD_eq_getElem?_getD, List.getElem?_eq_getElem hj]

theorem ints_one (k : IntKind) (xs : List Int) : ∀ u ∈ xs.map (Value.int k), u.oneCell' = true := ints_oneCell k xs

theorem clone_nil (w : World) :
    Calls Ybad.prog 25 #[.slice none 0 0] w fun e w' => e = .returned (.slice none 0 0) ∧ w' = w := by
  have hq : ∀ (w : World), (binOp .eql 23 (.slice none 0 0) (.slice none 0 0)).run Ybad.prog w = .ok (.bool true) w := fun w => Lib.run_eql_slice_nil w _ _ _ _ _ _ _ Ybad.underlying23
  go_enter Ybad.func25, Ybad.ntmps25
  go_wp2
  go_ret
  exact ⟨rfl, rfl⟩

/-- the value of an owned row that is not empty, its block and cells. -/
theorem own_pos {w : World} {B e : Nat} {k : IntKind} {v : Value} {n : Nat} {xs : List Int} (h : w.ownsRow B e 1 v n (xs.map (Value.int k))) (hn : 0 < n) :
    ∃ g cap, v = .slice (some ⟨g, 0, none⟩) n cap ∧ B ≤ g ∧ g < w.heap.size ∧ n ≤ cap ∧ xs.length = n ∧ (∀ j, j < n → w.cell? ⟨g, j, none⟩ = some (.int k (xs.getD j 0))) ∧ (∀ j, j < n → w.frozen? ⟨g, j, none⟩ = false) := by
  have hl : xs.length = n := by have := h.1; simpa using this
  obtain ⟨_, h2⟩ := id h
  rcases h2 with ⟨_, h0⟩ | ⟨g, cap, cur, rfl, hg, hh, hc, _⟩
  · omega
  refine ⟨g, cap, rfl, hg, ?_, hc, hl, fun j hj => ?_, fun j hj => h.frozenAt j⟩
  · rcases Nat.lt_or_ge g w.heap.size with h' | h'
    · exact h'
    · simp [Array.getElem?_eq_none h'] at hh
  · rw [h.cellAt j (by omega), ints_get k xs j (by omega)]

theorem clone_some (b off cap n : Nat) (xs : List Int) (w : World) (hn : n ≤ 100000) (hl : xs.length = n)
    (hc : ∀ j, j < n → w.cell? ⟨b, off + j, none⟩ = some (.int .i64 (xs.getD j 0))) :
    Calls Ybad.prog 25 #[.slice (some ⟨b, off, none⟩) n cap] w fun e w' => ∃ v, e = .returned v ∧ w'.ownsRow w.heap.size 3 1 v n (xs.map (Value.int .i64)) ∧ Below w.heap.size w w' := by
  obtain ⟨i0, hi, hz0, hz1, hz2⟩ := info_parts info3
  have hq : ∀ (w : World), (binOp .eql 23 (.slice (some ⟨b, off, none⟩) n cap) (.slice none 0 0)).run Ybad.prog w = .ok (.bool false) w := fun w => Lib.run_eql_slice_nil w _ _ _ _ _ _ _ Ybad.underlying23
  have hnew : ∀ j u, (xs.map (Value.int .i64))[j]? = some u → (w.alloc (.cells #[] 3)).cell? ((⟨b, off, none⟩ : Addr).add j) = some u := by
    intro j u hj
    have hjl : j < xs.length := by
      rcases Nat.lt_or_ge j xs.length with h | h
      · exact h
      · rw [List.getElem?_eq_none (by simpa using h)] at hj; cases hj
    rw [ints_get _ _ _ hjl] at hj
    cases hj
    rw [addr_add]
    exact Lib.cell?_alloc_some _ (hc j (by omega))
  clear hc
  go_enter Ybad.func25, Ybad.ntmps25
  go_wp2_with (at_builtin; refine wpList_append_own _ rfl _ _ 23 rfl w.heap.size 3 i0 (.int .i64 0) 1 8 Ybad.underlying23 hi hz0 hz1 hz2 rfl (by decide) _ 0 [] rfl (World.ownsRow_lit w #[] 0 (Nat.le_refl _) (by unfold maxLen; omega) rfl) ⟨b, off, none⟩ n cap (xs.map (Value.int .i64)) rfl (by simpa using hl) hnew (ints_one _ _) (by unfold maxLen; omega) (by omega) (by simp) ?_; intro v' w1 hown1 hgrow1 hnil1)
  have hown : w1.ownsRow w.heap.size 3 1 v' n (xs.map (Value.int .i64)) := by simpa using hown1
  go_ret
  exact ⟨_, rfl, hown, ((Below.refl _ _).alloc (Nat.le_refl _) _).grown hgrow1 (by simp) (by intro k hk; cases hk; exact Nat.le_refl _)⟩

theorem delete_any (g cap n b : Nat) (x : Int) (xs : List Int) (w : World) (hn : n ≤ 100000) (hcap : n ≤ cap) (hl : xs.length = n) (hbg : b ≠ g) (hx : w.cell? ⟨b, 0, none⟩ = some (.int .i64 x))
    (hc : ∀ j, j < n → w.cell? ⟨g, j, none⟩ = some (.int .i64 (xs.getD j 0))) (hf : ∀ j, j < n → w.frozen? ⟨g, j, none⟩ = false) :
    Calls Ybad.prog 24 #[.slice (some ⟨g, 0, none⟩) n cap, .func (.func 26) #[] #[.pointer (some ⟨b, 0, none⟩)]] w fun e w' =>
      ∃ v, e = .returned v ∧ HoldsI w' .i64 v (keepTo xs x n) ∧ w.grownBy w' (some g) ∧ Hid (∃ m c, v = .slice (some ⟨g, 0, none⟩) m c) := by
  by_cases hno : ∀ j, j < n → xs.getD j 0 ≠ x
  · refine (delete_none g cap n b x xs w hn hl hx hc hno).mono ?_
    rintro e w' ⟨rfl, rfl⟩
    refine ⟨_, rfl, ?_, World.grownBy.refl _ _, ⟨_, _, rfl⟩⟩
    have e : keepTo xs x n = xs := by rw [keepTo_none xs x n (by omega) hno, List.take_of_length_le (by omega)]
    rw [e]
    exact ⟨_, _, by rw [hl], .inr ⟨g, 0, rfl, fun j hj => by rw [Nat.zero_add]; exact hc j (by omega)⟩⟩
  · obtain ⟨i, hi, hit, hfirst⟩ := first_of (fun j => xs.getD j 0 = x) n (Classical.byContradiction fun h => hno fun j hj e => h ⟨j, hj, e⟩)
    refine (delete_some g cap n b i x xs w hn hcap hl hbg hx hc hf hi hit hfirst).mono ?_
    rintro e w' ⟨v, rfl, h1, h2, h3⟩
    exact ⟨v, rfl, h1, h2, h3⟩

/-- allBut at a list that is not empty. -/
theorem allBut_some (id nn h k' hh : Int) (rule : ByteArray) (b off cap n : Nat) (x : Int) (xs : List Int) (w : World) (hn : n ≤ 100000) (hpos : 0 < n) (hl : xs.length = n)
    (hc : ∀ j, j < n → w.cell? ⟨b, off + j, none⟩ = some (.int .i64 (xs.getD j 0))) :
    Calls Ybad.prog 14 #[.agg #[.int .i64 id, .int .i64 nn, .slice (some ⟨b, off, none⟩) n cap, .string rule, .int .i64 k', .int .i64 hh, .int .i64 h], .int .i64 x] w fun e w' =>
      ∃ v, e = .returned v ∧ HoldsI w' .i64 v (keepTo xs x n) ∧ Below w.heap.size w w' ∧ Hid (∃ g m c, v = .slice (some ⟨g, 0, none⟩) m c ∧ w.heap.size ≤ g) := by
  have hc2 : ∀ o1 o2 : Obj, ∀ j, j < n → ((w.alloc o1).alloc o2).cell? ⟨b, off + j, none⟩ = some (.int .i64 (xs.getD j 0)) := fun o1 o2 j hj => Lib.cell?_alloc_some _ (Lib.cell?_alloc_some _ (hc j hj))
  have HC : Hid (∀ o1 o2 : Obj, ∀ j, j < n → ((w.alloc o1).alloc o2).cell? ⟨b, off + j, none⟩ = some (.int .i64 (xs.getD j 0))) := hc2
  clear hc hc2
  go_enter Ybad.func14, Ybad.ntmps14
  go_wp2_with (go_at_call 25; refine (clone_some _ _ _ _ xs _ hn hl (HC.out _ _)).mono ?_)
  rintro e w1 ⟨v, rfl, hown, hb1⟩
  obtain ⟨g, cap', rfl, hg, hg2, hcap, _, hcg, hfg⟩ := own_pos hown hpos
  rw [World.size_alloc, World.size_alloc] at hg
  have hxc : w1.cell? ⟨w.heap.size + 1, 0, none⟩ = some (.int .i64 x) := by
    rw [hb1.cell (by simp)]
    simp
  have HB : Hid (Below w.heap.size w w1) := ((((Below.refl _ _).alloc (Nat.le_refl _) _).alloc (by simp) _).trans (hb1.mono (by simp; omega)))
  have HS : Hid (w.heap.size ≤ w1.heap.size) := HB.out.size
  clear hown hb1
  go_wp2_with (go_at_call 24; refine (delete_any _ _ _ _ x xs _ hn hcap hl (by omega) hxc hcg hfg).mono ?_)
  rintro e w2 ⟨v, rfl, hh2, hgr, hform⟩
  go_wp2
  go_ret
  exact ⟨_, rfl, hh2, HB.out.grown hgr HS.out (by intro k hk; cases hk; omega), by obtain ⟨m, c, hv⟩ := hform; exact ⟨g, m, c, hv, by omega⟩⟩

/-- allBut at no neighbour at all. -/
theorem allBut_nil (id nn h k' hh : Int) (rule : ByteArray) (x : Int) (w : World) :
    Calls Ybad.prog 14 #[.agg #[.int .i64 id, .int .i64 nn, .slice none 0 0, .string rule, .int .i64 k', .int .i64 hh, .int .i64 h], .int .i64 x] w fun e w' =>
      e = .returned (.slice none 0 0) ∧ Below w.heap.size w w' := by
  go_enter Ybad.func14, Ybad.ntmps14
  go_wp2_with (first | (go_at_call 25; refine (clone_nil _).mono ?_; rintro e w1 ⟨rfl, rfl⟩) | go_in)
  refine wp_loop_rounds 1 ?_
  rw [rounds_succ]
  go_wp2
  go_ret
  exact ⟨rfl, (((Below.refl _ _).alloc (Nat.le_refl _) _).alloc (by simp) _)⟩

end Go.Proofs.YbulkchqmDoor
