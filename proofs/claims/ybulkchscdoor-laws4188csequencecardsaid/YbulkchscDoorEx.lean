/-
  THE SEAT b4188aD: LawS4188CExact (3): the walk.
-/
import Derived.Test.YbulkchscDoorParts
namespace Go.Proofs.YbulkchscDoor
open Go.RowKit
set_option linter.unusedVariables false

theorem exact_long (a : Option Addr) (L cap : Nat) (n : Int) (w : World) (h1 : L ≤ maxLen) (h : 1024 < L) :
    Calls Ybad.prog 3 #[.slice a L cap, .int .i64 n] w fun e w' => e = .returned (.bool true) ∧ w' = w := by
  unfold maxLen at h1
  have h' : (1024 : Int) < (L : Int) := by omega
  go_enter Ybad.func3, Ybad.ntmps3
  go_wp2
  go_ret
  exact ⟨rfl, rfl⟩

/-- the row that make has laid, known whole. -/
theorem own_cur {w : World} {B e g L : Nat} {xs : List Value} (h : w.ownsRow B e 1 (.slice (some ⟨g, 0, none⟩) L L) L xs) : w.heap[g]? = some (.cells xs.toArray e (0, 0)) := by
  rcases h.2 with ⟨h', _⟩ | ⟨g', cap', cur, h', _, hg, _, _, hcs, htake⟩
  · cases h'
  · cases h'
    rw [hg, ← htake, List.take_of_length_le (by simp [hcs])]

theorem holds_row {w : World} {g : Nat} {xs : List Int} {e : TypeId} {fr : Nat × Nat} {c : Nat} (h : w.heap[g]? = some (.cells (xs.map (Value.int .u8)).toArray e fr)) : HoldsI w (.slice (some ⟨g, 0, none⟩) xs.length c) xs := by
  refine ⟨_, _, rfl, .inr ⟨g, 0, rfl, fun j hj => ?_⟩⟩
  simp [World.cell?, h, List.getD_eq_getElem?_getD, hj]

theorem ints_one (xs : List Int) : ∀ u ∈ xs.map (Value.int .u8), u.oneCell' = true := ints_oneCell .u8 xs

theorem holds_src {w : World} {a : Option Addr} {cap : Nat} {xs : List Int} (h : HoldsI w (.slice a xs.length cap) xs) (hp : 0 < (xs.map (Value.int .u8)).length) : ∃ ad, a = some ad ∧ ∀ j v, (xs.map (Value.int .u8))[j]? = some v → w.cell? (ad.add j) = some v := by
  obtain ⟨ao, c, hv, h⟩ := h
  simp only [Value.slice.injEq, true_and] at hv
  obtain ⟨rfl, rfl⟩ := hv
  rcases h with rfl | ⟨b, off, rfl, hc⟩
  · simp at hp
  · refine ⟨_, rfl, fun j v hj => ?_⟩
    have hjl : j < xs.length := by
      rcases Nat.lt_or_ge j xs.length with h | h
      · exact h
      · rw [List.getElem?_eq_none (by simpa using h)] at hj; cases hj
    rw [addr_add, hc j hjl, ← hj]
    simp [List.getD_eq_getElem?_getD, List.getElem?_eq_getElem hjl]

/-- copy(c, data), c the row just made. -/
theorem copy_ex {w w1 : World} {g B cap : Nat} {a : Option Addr} {xs : List Int} (hh : w1.heap[g]? = some (.cells (List.replicate xs.length (Value.int .u8 0)).toArray 5 (0, 0))) (hx : HoldsI w1 (.slice a xs.length cap) xs) (hb : Below B w w1) (hB : B ≤ g) :
    ∃ w2, (∀ ty, (Builtin.copy_ #[22, 22] ty #[.slice (some ⟨g, 0, none⟩) xs.length xs.length, .slice a xs.length cap]).run Ybad.prog w1 = .ok (goInt xs.length) w2) ∧ w2.heap[g]? = some (.cells (xs.map (Value.int .u8)).toArray 5 (0, 0)) ∧ Below B w w2 := by
  by_cases h0 : xs = []
  · subst h0
    exact ⟨w1, fun ty => run_copy_none w1 22 22 ty 5 _ _ _ _ _ _ Ybad.underlying22 (by kernel_rfl) rfl, hh, hb⟩
  · have hpos : 0 < (xs.map (Value.int .u8)).length := by simpa using List.length_pos_iff.2 h0
    obtain ⟨ad, rfl, hsrc⟩ := holds_src hx hpos
    refine ⟨_, fun ty => by
      have := run_copy_row (P := Ybad.prog) w1 22 22 ty 5 g 0 xs.length xs.length ad xs.length cap _ 5 (xs.map (Value.int .u8)) Ybad.underlying22 (by kernel_rfl) hh (by simp) hsrc (by simp) (ints_one xs)
      simpa using this, ?_, below_setRow hb hB _⟩
    have := setRow_heap w1 g _ (xs.map (Value.int .u8)).toArray 5 (0, 0) hh
    simpa using this

/-- what stands when the buffer has been laid: the copy, the buffer's cell. -/
theorem boxed {w2 : World} {g : Nat} {xs : List Int} {v : Value} (h : w2.heap[g]? = some (.cells (xs.map (Value.int .u8)).toArray 5 (0, 0))) : HoldsI (w2.alloc (.cells #[v] 23)) (.slice (some ⟨g, 0, none⟩) xs.length xs.length) xs :=
  holds_later (fun a u h => Lib.cell?_alloc_some _ h) (holds_row h)

set_option maxHeartbeats 1000000 in
theorem exact_bad (a : Option Addr) (cap : Nat) (xs : List Int) (n : Int) (ea : Addr) (w : World) (hx : HoldsI w (.slice a xs.length cap) xs) (hcap : xs.length ≤ cap) (hL : xs.length ≤ 1024)
    (hg : w.cell? ⟨0, 0, none⟩ = some (.iface 31 (.pointer (some ea)))) (hn : n < 0 ∨ (xs.length : Int) < n) :
    Calls Ybad.prog 3 #[.slice a xs.length cap, .int .i64 n] w fun e w' => e = .returned (.bool true) ∧ Below w.heap.size w w' := by
  obtain ⟨i5, hi, hz0, hz1, hz2⟩ := info_parts info5
  have HX : Hid (HoldsI w (.slice a xs.length cap) xs) := hx
  have HG : Hid (w.cell? ⟨0, 0, none⟩ = some (.iface 31 (.pointer (some ea)))) := hg
  have HN : Hid (n < 0 ∨ (xs.length : Int) < n) := hn
  have c1 : ¬ (1024 : Int) < (xs.length : Int) := by omega
  clear hx hg hn
  go_enter Ybad.func3, Ybad.ntmps3
  go_wp2_with (at_make; refine wpList_make_full _ rfl _ _ 22 rfl w.heap.size 5 i5 (.int .u8 0) 1 Ybad.underlying22 hi hz0 hz1 .i64 .i64 _ _ xs.length rfl rfl rfl rfl (by rw [hz2]; omega) (by unfold maxLen; omega) (Nat.le_refl _) ?_)
  intro w1 hown1 hg1
  have hh1 := own_cur hown1
  have hmc : (madeCells #[Value.int .u8 0] xs.length).toList = List.replicate xs.length (.int .u8 0) := toList_madeCells_one _ _
  rw [hmc] at hh1
  have hb1 : Below w.heap.size w w1 := (Below.refl _ _).grown hg1 (Nat.le_refl _) (by intro k hk; cases hk)
  obtain ⟨w2, hrun2, hh2, hb2⟩ := copy_ex (a := a) (cap := cap) hh1 (holds_later (fun a u h => cell_later hb1 h) HX.out) hb1 (Nat.le_refl _)
  have hsz : w.heap.size < w2.heap.size := (Array.getElem?_eq_some_iff.1 hh2).1
  have HB2 : Hid (Below w.heap.size w w2) := hb2
  have HC : Hid (∀ v, HoldsI (w2.alloc (.cells #[v] 23)) (.slice (some ⟨w.heap.size, 0, none⟩) xs.length xs.length) xs) := fun v => boxed hh2
  have HA : Hid (∀ o, HoldsI (w2.alloc o) (.slice a xs.length cap) xs) := fun o => holds_later (fun a u h => Lib.cell?_alloc_some _ (cell_later hb2 h)) HX.out
  have HE : Hid (∀ o, (w2.alloc o).cell? ⟨0, 0, none⟩ = some (.iface 31 (.pointer (some ea)))) := fun o => Lib.cell?_alloc_some _ (cell_later hb2 HG.out)
  clear hown1 hg1 hb1 hh1 hmc hh2 hb2
  go_wp2_with (go_at_call 5; refine (bytes_bad _ ⟨w.heap.size, 0, none⟩ xs.length xs.length n (.iface 31 (.pointer (some ea))) _ (by unfold maxLen; omega) HN.out (by simp) (HE.out _) rfl).mono ?_)
  rintro e w3 ⟨rfl, m, hw3⟩
  have hb3 : Below w.heap.size w w3 := by rw [hw3]; exact below_drewN (HB2.out.alloc (by omega) _) m
  have HB3 : Hid (Below w.heap.size w w3) := hb3
  have k3 : w3.cell? ⟨w2.heap.size, 0, none⟩ = some (.slice (some ⟨w.heap.size, 0, none⟩) xs.length xs.length) := by rw [hw3]; simp
  have g3 : w3.cell? ⟨0, 0, none⟩ = some (.iface 31 (.pointer (some ea))) := by rw [hw3]; exact HE.out _
  have HC3 : Hid (HoldsI w3 (.slice (some ⟨w.heap.size, 0, none⟩) xs.length xs.length) xs) := by rw [hw3]; exact HC.out _
  have HA3 : Hid (HoldsI w3 (.slice a xs.length cap) xs) := by rw [hw3]; exact HA.out _
  have q1 : ∀ (w : World), (binOp .eql 22 (.slice none 0 0) (.slice none 0 0)).run Ybad.prog w = .ok (.bool true) w := fun w => Lib.run_eql_slice_nil w _ _ _ _ _ _ _ Ybad.underlying22
  have qe := fun w => eqE w ea
  clear hw3 hb3 HC HA HE HB2 HX HG hrun2
  have hcase : n < 0 ∨ (¬ n < 0 ∧ (xs.length : Int) < n) := by have := HN.out; omega
  rcases hcase with hn1 | ⟨hn1, hn2⟩
  all_goals
    go_wp2_with (go_at_call 6; refine (eq_any _ _ xs _ (by unfold maxLen; omega) HC3.out HA3.out).mono ?_)
    first | rintro e w4 ⟨rfl, m4, hw4⟩ | rintro e w4 rfl m4 hw4
    have hb4 : Below w.heap.size w w4 := by rw [hw4]; exact below_drewN HB3.out m4
    have HB4 : Hid (Below w.heap.size w w4) := hb4
    have HC4 : Hid (HoldsI w4 (.slice (some ⟨w.heap.size, 0, none⟩) xs.length xs.length) xs) := by rw [hw4]; exact HC3.out
    have HA4 : Hid (HoldsI w4 (.slice a xs.length cap) xs) := by rw [hw4]; exact HA3.out
    clear hw4 hb4 HC3 HA3 HB3
    go_wp2_with (go_at_call 6; refine (eq_any _ _ xs _ (by unfold maxLen; omega) HC4.out HA4.out).mono ?_)
    first | rintro e w5 ⟨rfl, m5, hw5⟩ | rintro e w5 rfl m5 hw5
    have HB5 : Hid (Below w.heap.size w w5) := by rw [hw5]; exact below_drewN HB4.out m5
    clear hw5
    go_wp2
    go_ret
    exact ⟨rfl, HB5.out⟩

end Go.Proofs.YbulkchscDoor
