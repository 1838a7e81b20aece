/-
  THE WALKS of the seat b4185aF: checkNodes (7), CheckRegular (5), zzs4185cwant (6), and the laws' common core.
-/
import Derived.Test.YbulkchqmFmtFacts
import Derived.WalkKit
import Derived.WalkSpells
import Derived.Deep.QuietTactic
import Derived.BigQuiet
import Derived.WalkSmall
namespace Go.Proofs.YbulkchqmFmt
open Go.RowKit Go.Extern.Stop Go.Stop Go.Extern

theorem nodes_ok (n : Int) (w : World) (h1 : 1 ≤ n) (h2 : n ≤ 1000) :
    Calls Ybaf.prog 7 #[.int .i64 n] w fun e w' => e = .returned .nilIface ∧ w' = w := by
  go_enter Ybaf.func7, Ybaf.ntmps7
  go_wp2
  go_ret
  exact ⟨rfl, rfl⟩

theorem nodes_bad (F : Interp) (n : Int) (w : World) (hF : F.answers w.tape) (h : n < 1 ∨ 1000 < n) :
    Calls Ybaf.prog 7 #[.int .i64 n] w fun e w' => (∃ a, e = .returned (.iface 33 (.pointer (some a)))) ∧ Below w.heap.size w w' := by
  have hF' := answers_open hF
  rcases h with h | h
  · go_enter Ybaf.func7, Ybaf.ntmps7
    go_wp2
    go_ret
    exact ⟨⟨_, rfl⟩, ((((Below.refl _ _).alloc (Nat.le_refl _) _).alloc (by simp) _).drew)⟩
  · have h' : ¬ n < 1 := by omega
    go_enter Ybaf.func7, Ybaf.ntmps7
    go_wp2
    go_ret
    exact ⟨⟨_, rfl⟩, ((((Below.refl _ _).alloc (Nat.le_refl _) _).alloc (by simp) _).drew)⟩

theorem mul_bounds (n k : Int) (h1 : 1 ≤ n) (h2 : n ≤ 1000) (h3 : 1 ≤ k) (h4 : k < n) : 0 ≤ n * k ∧ n * k ≤ 1000000 := by
  have a : 0 ≤ n * k := Int.mul_nonneg (by omega) (by omega)
  have b : n * k ≤ 1000 * 1000 := Int.mul_le_mul h2 (by omega) (by omega) (by omega)
  exact ⟨a, by omega⟩

/-- the plain test: n * k is even just if one of the two is. -/
theorem mul_even (n k : Int) : n * k % 2 = 0 ↔ (n % 2 = 0 ∨ k % 2 = 0) := by
  rw [Int.mul_emod]
  rcases Int.emod_two_eq n with hn | hn <;> rcases Int.emod_two_eq k with hk | hk <;> simp [hn, hk]

theorem reg_ok (n k : Int) (w : World) (h1 : 1 ≤ n) (h2 : n ≤ 1000) (h3 : 1 ≤ k) (h4 : k < n) (h5 : n % 2 = 0 ∨ k % 2 = 0) :
    Calls Ybaf.prog 5 #[.int .i64 n, .int .i64 k] w fun e w' => e = .returned .nilIface ∧ w' = w := by
  obtain ⟨hb1, hb2⟩ := mul_bounds n k h1 h2 h3 h4
  have h6 : n * k % 2 = 0 := (mul_even n k).2 h5
  clear h5
  have h7 : (n * k % 2 != 0) = false := by simp [h6]
  clear h6
  go_enter Ybaf.func5, Ybaf.ntmps5
  go_wp2_with (go_at_call 7; refine (nodes_ok _ _ h1 h2).mono ?_; rintro e w' ⟨rfl, rfl⟩)
  go_ret
  exact ⟨rfl, rfl⟩

theorem reg_nodes (F : Interp) (n k : Int) (w : World) (hF : F.answers w.tape) (h : n < 1 ∨ 1000 < n) :
    Calls Ybaf.prog 5 #[.int .i64 n, .int .i64 k] w fun e w' => (∃ a, e = .returned (.iface 33 (.pointer (some a)))) ∧ Below w.heap.size w w' := by
  go_enter Ybaf.func5, Ybaf.ntmps5
  go_wp2_with (go_at_call 7; refine (nodes_bad F _ _ (by exact hF) h).mono ?_; rintro e w' ⟨⟨a, rfl⟩, hb⟩)
  go_ret
  exact ⟨⟨_, rfl⟩, by assumption⟩

theorem reg_k (F : Interp) (n k : Int) (w : World) (hF : F.answers w.tape) (h1 : 1 ≤ n) (h2 : n ≤ 1000) (h : k < 1 ∨ n ≤ k) :
    Calls Ybaf.prog 5 #[.int .i64 n, .int .i64 k] w fun e w' => (∃ a, e = .returned (.iface 33 (.pointer (some a)))) ∧ Below w.heap.size w w' := by
  have hF' := answers_open hF
  rcases h with h | h
  · go_enter Ybaf.func5, Ybaf.ntmps5
    go_wp2_with (first | (go_at_call 7; refine (nodes_ok _ _ h1 h2).mono ?_; rintro e w' ⟨rfl, rfl⟩) | go_in)
    go_ret
    exact ⟨⟨_, rfl⟩, ((((Below.refl _ _).alloc (Nat.le_refl _) _).alloc (by simp) _).drew)⟩
  · have h3 : ¬ k < 1 := by omega
    go_enter Ybaf.func5, Ybaf.ntmps5
    go_wp2_with (first | (go_at_call 7; refine (nodes_ok _ _ h1 h2).mono ?_; rintro e w' ⟨rfl, rfl⟩) | go_in)
    go_ret
    exact ⟨⟨_, rfl⟩, ((((Below.refl _ _).alloc (Nat.le_refl _) _).alloc (by simp) _).drew)⟩

theorem reg_odd (F : Interp) (n k : Int) (w : World) (hF : F.answers w.tape) (h1 : 1 ≤ n) (h2 : n ≤ 1000) (h3 : 1 ≤ k) (h4 : k < n) (h5 : ¬ (n % 2 = 0 ∨ k % 2 = 0)) :
    Calls Ybaf.prog 5 #[.int .i64 n, .int .i64 k] w fun e w' => (∃ a, e = .returned (.iface 33 (.pointer (some a)))) ∧ Below w.heap.size w w' := by
  have hF' := answers_open hF
  obtain ⟨hb1, hb2⟩ := mul_bounds n k h1 h2 h3 h4
  have h6 : ¬ n * k % 2 = 0 := fun h => h5 ((mul_even n k).1 h)
  clear h5
  have h7 : (n * k % 2 != 0) = true := by simpa using h6
  clear h6
  go_enter Ybaf.func5, Ybaf.ntmps5
  go_wp2_with (first | (go_at_call 7; refine (nodes_ok _ _ h1 h2).mono ?_; rintro e w' ⟨rfl, rfl⟩) | go_in)
  go_ret
  exact ⟨⟨_, rfl⟩, ((((Below.refl _ _).alloc (Nat.le_refl _) _).alloc (by simp) _).drew)⟩

/-- what the laws' own model answers. -/
def wantB (n k : Int) : Bool := decide (1 ≤ n ∧ n ≤ 1000 ∧ 1 ≤ k ∧ k < n ∧ (n % 2 = 0 ∨ k % 2 = 0))

theorem want_any (n k : Int) (w : World) :
    Calls Ybaf.prog 6 #[.int .i64 n, .int .i64 k] w fun e w' => e = .returned (.bool (wantB n k)) ∧ w' = w := by
  by_cases h1 : n < 1
  · have e : wantB n k = false := by unfold wantB; simp; omega
    rw [e]
    go_enter Ybaf.func6, Ybaf.ntmps6
    go_wp2
    go_ret
    exact ⟨rfl, rfl⟩
  by_cases h2 : 1000 < n
  · have e : wantB n k = false := by unfold wantB; simp; omega
    rw [e]
    go_enter Ybaf.func6, Ybaf.ntmps6
    go_wp2
    go_ret
    exact ⟨rfl, rfl⟩
  by_cases h3 : k < 1
  · have e : wantB n k = false := by unfold wantB; simp; omega
    rw [e]
    go_enter Ybaf.func6, Ybaf.ntmps6
    go_wp2
    go_ret
    exact ⟨rfl, rfl⟩
  by_cases h4 : n ≤ k
  · have e : wantB n k = false := by unfold wantB; simp; omega
    rw [e]
    go_enter Ybaf.func6, Ybaf.ntmps6
    go_wp2
    go_ret
    exact ⟨rfl, rfl⟩
  by_cases h5 : n % 2 = 0
  · have e : wantB n k = true := by unfold wantB; simp; omega
    rw [e]
    have h5' : (n % 2 == 0) = true := by simpa using h5
    clear h5
    go_enter Ybaf.func6, Ybaf.ntmps6
    go_wp2
    go_ret
    exact ⟨rfl, rfl⟩
  have h5' : (n % 2 == 0) = false := by simpa using h5
  by_cases h6 : k % 2 = 0
  · have e : wantB n k = true := by unfold wantB; simp; omega
    rw [e]
    have h6' : (k % 2 == 0) = true := by simpa using h6
    clear h5 h6
    go_enter Ybaf.func6, Ybaf.ntmps6
    go_wp2
    go_ret
    exact ⟨rfl, rfl⟩
  · have e : wantB n k = false := by unfold wantB; simp; omega
    rw [e]
    have h6' : (k % 2 == 0) = false := by simpa using h6
    clear h5 h6
    go_enter Ybaf.func6, Ybaf.ntmps6
    go_wp2
    go_ret
    exact ⟨rfl, rfl⟩

theorem reg_bad (F : Interp) (n k : Int) (w : World) (hF : F.answers w.tape) (h : wantB n k = false) :
    Calls Ybaf.prog 5 #[.int .i64 n, .int .i64 k] w fun e w' => (∃ a, e = .returned (.iface 33 (.pointer (some a)))) ∧ Below w.heap.size w w' := by
  have h' : ¬ (1 ≤ n ∧ n ≤ 1000 ∧ 1 ≤ k ∧ k < n ∧ (n % 2 = 0 ∨ k % 2 = 0)) := by simpa only [wantB, decide_eq_false_iff_not] using h
  by_cases h1 : n < 1 ∨ 1000 < n
  · exact reg_nodes F n k w hF h1
  by_cases h2 : k < 1 ∨ n ≤ k
  · exact reg_k F n k w hF (by omega) (by omega) h2
  exact reg_odd F n k w hF (by omega) (by omega) (by omega) (by omega) (by omega)

theorem reg_good (n k : Int) (w : World) (h : wantB n k = true) :
    Calls Ybaf.prog 5 #[.int .i64 n, .int .i64 k] w fun e w' => e = .returned .nilIface ∧ w' = w := by
  have h' : 1 ≤ n ∧ n ≤ 1000 ∧ 1 ≤ k ∧ k < n ∧ (n % 2 = 0 ∨ k % 2 = 0) := by simpa only [wantB, decide_eq_true_eq] using h
  exact reg_ok n k w h'.1 h'.2.1 h'.2.2.1 h'.2.2.2.1 h'.2.2.2.2

theorem exact_any (F : Interp) (n k : Int) (w : World) (hF : F.answers w.tape) :
    Calls Ybaf.prog 3 #[.int .i64 n, .int .i64 k] w fun e w' => e = .returned (.bool true) ∧ Below w.heap.size w w' := by
  cases h : wantB n k with
  | true =>
    go_enter Ybaf.func3, Ybaf.ntmps3
    go_wp2_with (go_at_call 5; refine (reg_good _ _ _ h).mono ?_; rintro e w' ⟨rfl, rfl⟩)
    go_quiet ((go_at_call 6; exact Calls.quiet_of_same (want_any _ _ _)))
    go_wp2
    go_ret
    exact ⟨rfl, below_drewN (Below.refl _ _) _⟩
  | false =>
    go_enter Ybaf.func3, Ybaf.ntmps3
    go_wp2_with (go_at_call 5; refine (reg_bad F _ _ _ (by exact hF) h).mono ?_; rintro e w' ⟨⟨a, rfl⟩, hb⟩)
    go_quiet ((go_at_call 6; exact Calls.quiet_of_same (want_any _ _ _)))
    go_wp2
    go_ret
    exact ⟨rfl, below_drewN (by assumption) _⟩

theorem mapped_any (F : Interp) (a b : Int) (w : World) (hF : F.answers w.tape) (ha : 0 ≤ a) (ha2 : a ≤ 65535) (hb0 : 0 ≤ b) (hb2 : b ≤ 65535) :
    Calls Ybaf.prog 4 #[.int .u16 a, .int .u16 b] w fun e w' => e = .returned (.bool true) ∧ Below w.heap.size w w' := by
  have hn1 : 0 ≤ a % 1002 := by omega
  have hn2 : a % 1002 ≤ 1001 := by omega
  have hk1 : 0 ≤ b % (a % 1002 + 2) := Int.emod_nonneg _ (by omega)
  have hk2 : b % (a % 1002 + 2) < a % 1002 + 2 := Int.emod_lt_of_pos _ (by omega)
  cases h : wantB (a % 1002) (b % (a % 1002 + 2) - 1) with
  | true =>
    go_enter Ybaf.func4, Ybaf.ntmps4
    go_wp2_with (go_at_call 5; refine (reg_good _ _ _ h).mono ?_; rintro e w' ⟨rfl, rfl⟩)
    go_quiet ((go_at_call 6; exact Calls.quiet_of_same (want_any _ _ _)))
    go_wp2
    go_ret
    exact ⟨rfl, below_drewN (Below.refl _ _) _⟩
  | false =>
    go_enter Ybaf.func4, Ybaf.ntmps4
    go_wp2_with (go_at_call 5; refine (reg_bad F _ _ _ (by exact hF) h).mono ?_; rintro e w' ⟨⟨a, rfl⟩, hb⟩)
    go_quiet ((go_at_call 6; exact Calls.quiet_of_same (want_any _ _ _)))
    go_wp2
    go_ret
    exact ⟨rfl, below_drewN (by assumption) _⟩

end Go.Proofs.YbulkchqmFmt
