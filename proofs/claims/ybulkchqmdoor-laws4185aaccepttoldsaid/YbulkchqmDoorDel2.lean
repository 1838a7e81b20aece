/-
  THE SEAT b4185aD: slices.DeleteFunc (24), slices.Clone (25), Config.allBut (14).
-/
import Derived.Test.YbulkchqmDoorDel
import Derived.Lib.SliceRun
import Derived.Laws.IdiomCopy
namespace Go.Proofs.YbulkchqmDoor
open Go.RowKit
set_option linter.unusedVariables false

theorem zero3 (w : World) : (zeroValue 3).run Ybad.prog w = .ok (.int .i64 0) w := by kernel_rfl

theorem grownBy_setCell (w wr : World) (g i : Nat) (u : Value) (h : w.grownBy wr (some g)) : w.grownBy (wr.setCell ⟨g, i, none⟩ u) (some g) :=
  ⟨h.os, h.tape, h.output, by simpa [World.setCell] using h.size, fun k hk hne => (Below.heap_setCell _ _ _ _ (fun e => hne (by rw [e]))).trans (h.block k hk hne)⟩

theorem size_setCell (wr : World) (a : Addr) (u : Value) : (wr.setCell a u).heap.size = wr.heap.size := by simp [World.setCell]

theorem grownBy_setCells (w : World) (g : Nat) : ∀ (vs : List Value) (o : Nat) (wr : World), w.grownBy wr (some g) → w.grownBy (wr.setCells g o vs) (some g)
  | [], _, _, h => h
  | v :: r, o, wr, h => grownBy_setCells w g r (o + 1) _ (grownBy_setCell w wr g o v h)

theorem size_setCells (g : Nat) : ∀ (vs : List Value) (o : Nat) (wr : World), (wr.setCells g o vs).heap.size = wr.heap.size
  | [], _, _ => rfl
  | v :: r, o, wr => by rw [World.setCells, size_setCells g r, size_setCell]

theorem del_start {w : World} {g n : Nat} {xs : List Int} {x : Int} {i : Nat} (hl : xs.length = n) (hi : i < n) (hx : xs.getD i 0 = x) (hno : ∀ j, j < i → xs.getD j 0 ≠ x)
    (hc : ∀ j, j < n → w.cell? ⟨g, j, none⟩ = some (.int .i64 (xs.getD j 0))) (hf : ∀ j, j < n → w.frozen? ⟨g, j, none⟩ = false) :
    DelRel w w g n xs x (i + 1) ∧ (keepTo xs x (i + 1)).length = i := by
  have e : keepTo xs x (i + 1) = xs.take i := by rw [keepTo_hit xs x i (by omega) hx, keepTo_none xs x i (by omega) hno]
  refine ⟨⟨World.grownBy.refl _ _, rfl, xs, hl, hc, hf, ?_, fun _ _ _ => rfl⟩, ?_⟩
  · rw [e]; simp
  · rw [e]; simp; omega

theorem del_drop {w wr : World} {g n : Nat} {xs : List Int} {x : Int} {j : Nat} (h : DelRel w wr g n xs x j) (hl : xs.length = n) (hj : j < n) (hx : xs.getD j 0 = x) : DelRel w wr g n xs x (j + 1) := by
  obtain ⟨h1, h0, ys, h2, h3, h4, h5, h6⟩ := h
  refine ⟨h1, h0, ys, h2, h3, h4, ?_, fun i hi hi' => h6 i (by omega) hi'⟩
  rw [keepTo_hit xs x j (by omega) hx]; exact h5

theorem del_keep {w wr : World} {g n : Nat} {xs : List Int} {x : Int} {j : Nat} (h : DelRel w wr g n xs x j) (hl : xs.length = n) (hj : j < n) (hx : ¬ xs.getD j 0 = x) (hlt : (keepTo xs x j).length < j) :
    DelRel w (wr.setCell ⟨g, (keepTo xs x j).length, none⟩ (.int .i64 (xs.getD j 0))) g n xs x (j + 1) := by
  obtain ⟨h1, h0, ys, h2, h3, h4, h5, h6⟩ := h
  have hk := keepTo_miss xs x j (by omega) hx
  obtain ⟨i, hi⟩ : ∃ i, i = (keepTo xs x j).length := ⟨_, rfl⟩
  rw [← hi] at h5 hlt ⊢
  refine ⟨grownBy_setCell _ _ _ _ _ h1, (size_setCell _ _ _).trans h0, ys.set i (xs.getD j 0), by simpa using h2, ?_, ?_, ?_, ?_⟩
  · intro k hkn
    by_cases e : k = i
    · subst e
      rw [World.cell?_setCell_same _ _ _ (h3 k hkn)]
      simp [List.getD_eq_getElem?_getD, show k < ys.length by omega]
    · rw [World.cell?_setCell_other _ _ _ _ (fun e' => e (by simpa using (congrArg Addr.off e').symm)), h3 k hkn]
      simp [List.getD_eq_getElem?_getD, List.getElem?_set_ne (Ne.symm e)]
  · intro k hkn; simpa using h4 k hkn
  · rw [hk]
    have hlen : (keepTo xs x j ++ [xs.getD j 0]).length = i + 1 := by simp [hi]
    rw [hlen, List.take_succ_eq_append_getElem (by simp; omega), List.take_set_of_le (Nat.le_refl _), h5]
    simp
  · intro k hk1 hk2
    have := h6 k (by omega) hk2
    simp only [List.getD_eq_getElem?_getD] at this ⊢
    rw [List.getElem?_set_ne (by omega)]; exact this

theorem del_end {w wr : World} {g n : Nat} {xs : List Int} {x : Int} (h : DelRel w wr g n xs x n) (hl : xs.length = n) (cap : Nat) (m : Nat) (hm : (keepTo xs x n).length + m = n) :
    HoldsI (wr.setCells g (keepTo xs x n).length (List.replicate m (.int .i64 0))) .i64 (.slice (some ⟨g, 0, none⟩) (keepTo xs x n).length cap) (keepTo xs x n) ∧
    w.grownBy (wr.setCells g (keepTo xs x n).length (List.replicate m (.int .i64 0))) (some g) ∧ (wr.setCells g (keepTo xs x n).length (List.replicate m (.int .i64 0))).heap.size = w.heap.size := by
  obtain ⟨h1, h0, ys, h2, h3, h4, h5, h6⟩ := h
  refine ⟨⟨_, _, rfl, .inr ⟨g, 0, rfl, fun j hj => ?_⟩⟩, grownBy_setCells _ _ _ _ _ h1, (size_setCells _ _ _ _).trans h0⟩
  rw [World.cell?_setCells_out _ _ _ _ _ (fun _ _ => .inl (by simpa using hj))]
  have := h3 j (by omega)
  rw [show (0 : Nat) + j = j by omega, this]
  congr 2
  have e := congrArg (fun l => l.getD j 0) h5
  simp only [List.getD_eq_getElem?_getD] at e ⊢
  rw [← e, List.getElem?_take_of_lt hj]

theorem first_of (p : Nat → Prop) : ∀ n, (∃ i, i < n ∧ p i) → ∃ i, i < n ∧ p i ∧ ∀ j, j < i → ¬ p j
  | 0, h => by obtain ⟨i, hi, _⟩ := h; omega
  | n + 1, h => by
    by_cases hn : ∃ i, i < n ∧ p i
    · obtain ⟨i, hi, hp, hj⟩ := first_of p n hn
      exact ⟨i, by omega, hp, hj⟩
    · obtain ⟨i, hi, hp⟩ := h
      have e : i = n := Classical.byContradiction fun hne => hn ⟨i, by omega, hp⟩
      exact ⟨i, hi, hp, fun j hj hpj => hn ⟨j, by omega, hpj⟩⟩

theorem index_none (g cap n b : Nat) (x : Int) (xs : List Int) (w : World) (hn : n ≤ 100000) (hx : w.cell? ⟨b, 0, none⟩ = some (.int .i64 x))
    (hc : ∀ j, j < n → w.cell? ⟨g, j, none⟩ = some (.int .i64 (xs.getD j 0))) (hno : ∀ j, j < n → xs.getD j 0 ≠ x) :
    Calls Ybad.prog 32 #[.slice (some ⟨g, 0, none⟩) n cap, .func (.func 26) #[] #[.pointer (some ⟨b, 0, none⟩)]] w fun e w' => e = .returned (.int .i64 (-1)) ∧ w' = w := by
  refine (index_any g cap n b x xs w hn hx hc).mono ?_
  rintro e w' ⟨⟨r, rfl, hr⟩, rfl⟩
  rcases hr with ⟨i, rfl, hi, h, _⟩ | ⟨rfl, _⟩
  · exact absurd h (hno i hi)
  · exact ⟨rfl, rfl⟩

theorem index_hit (g cap n b i : Nat) (x : Int) (xs : List Int) (w : World) (hn : n ≤ 100000) (hx : w.cell? ⟨b, 0, none⟩ = some (.int .i64 x))
    (hc : ∀ j, j < n → w.cell? ⟨g, j, none⟩ = some (.int .i64 (xs.getD j 0))) (hi : i < n) (hit : xs.getD i 0 = x) (hno : ∀ j, j < i → xs.getD j 0 ≠ x) :
    Calls Ybad.prog 32 #[.slice (some ⟨g, 0, none⟩) n cap, .func (.func 26) #[] #[.pointer (some ⟨b, 0, none⟩)]] w fun e w' => e = .returned (.int .i64 i) ∧ w' = w := by
  refine (index_any g cap n b x xs w hn hx hc).mono ?_
  rintro e w' ⟨⟨r, rfl, hr⟩, rfl⟩
  rcases hr with ⟨i', rfl, hi', h, hno'⟩ | ⟨rfl, hno'⟩
  · have e : i' = i := by
      rcases Nat.lt_trichotomy i' i with h' | h' | h'
      · exact absurd h (hno i' h')
      · exact h'
      · exact absurd hit (hno' i h')
    rw [e]
    exact ⟨rfl, rfl⟩
  · exact absurd hit (hno' i hi)

theorem delete_none (g cap n b : Nat) (x : Int) (xs : List Int) (w : World) (hn : n ≤ 100000) (hl : xs.length = n) (hx : w.cell? ⟨b, 0, none⟩ = some (.int .i64 x))
    (hc : ∀ j, j < n → w.cell? ⟨g, j, none⟩ = some (.int .i64 (xs.getD j 0))) (hno : ∀ j, j < n → xs.getD j 0 ≠ x) :
    Calls Ybad.prog 24 #[.slice (some ⟨g, 0, none⟩) n cap, .func (.func 26) #[] #[.pointer (some ⟨b, 0, none⟩)]] w fun e w' =>
      e = .returned (.slice (some ⟨g, 0, none⟩) n cap) ∧ w' = w := by
  go_enter Ybad.func24, Ybad.ntmps24
  go_wp2_with (go_at_call 32; refine (index_none _ _ _ _ x xs _ hn hx hc hno).mono ?_; rintro e w' ⟨rfl, rfl⟩)
  go_ret
  exact ⟨rfl, rfl⟩

set_option maxHeartbeats 800000 in
theorem delete_some (g cap n b i : Nat) (x : Int) (xs : List Int) (w : World) (hn : n ≤ 100000) (hcap : n ≤ cap) (hl : xs.length = n) (hbg : b ≠ g) (hx : w.cell? ⟨b, 0, none⟩ = some (.int .i64 x))
    (hc : ∀ j, j < n → w.cell? ⟨g, j, none⟩ = some (.int .i64 (xs.getD j 0))) (hf : ∀ j, j < n → w.frozen? ⟨g, j, none⟩ = false) (hi : i < n) (hit : xs.getD i 0 = x) (hno : ∀ j, j < i → xs.getD j 0 ≠ x) :
    Calls Ybad.prog 24 #[.slice (some ⟨g, 0, none⟩) n cap, .func (.func 26) #[] #[.pointer (some ⟨b, 0, none⟩)]] w fun e w' =>
      ∃ v, e = .returned v ∧ HoldsI w' .i64 v (keepTo xs x n) ∧ w.grownBy w' (some g) ∧ Hid (∃ m c, v = .slice (some ⟨g, 0, none⟩) m c) := by
  obtain ⟨hst, hst2⟩ := del_start hl hi hit hno hc hf
  have HST : Hid (DelRel w w g n xs x (i + 1) ∧ (keepTo xs x (i + 1)).length = i) := ⟨hst, hst2⟩
  have HL : Hid (xs.length = n) := hl
  clear hst hst2 hf hl
  have hm1 : ((i : Int) == -1) = false := by rw [beq_eq_false_iff_ne]; omega
  go_enter Ybad.func24, Ybad.ntmps24
  go_wp2_with (go_at_call 32; refine (index_hit _ _ _ _ i x xs _ hn hx hc hi hit hno).mono ?_; rintro e w' ⟨rfl, rfl⟩; clear hc hit hno)
  go_loopw [5, 6] (fun vi vj wr => ∃ j m : Nat, j ≤ n ∧ vj = .int .i64 j ∧ vi = .int .i64 m ∧ m < j ∧ Hid (m = (keepTo xs x j).length) ∧ DelRel w' wr g n xs x j) (fun _ vj _ => n - (intOf vj).toNat)
  case atStart => exact ⟨i + 1, i, by omega, by go_num, rfl, by omega, HST.out.2.symm, HST.out.1⟩
  case round =>
    obtain ⟨j, m, hj, rfl, rfl, hlt, HM, hdel⟩ := hrel
    have hD := hdel
    obtain ⟨hgr, hsz, ys, hyl, hcy, hfy, hyt, hyx⟩ := hD
    have hxr : wr.cell? ⟨b, 0, none⟩ = some (.int .i64 x) := hgr.cell hx (by simpa using hbg)
    by_cases hltn : j < n
    · obtain ⟨u, hu⟩ : ∃ u, u = xs.getD j 0 := ⟨_, rfl⟩
      have h3 : wr.cell? ⟨g, j, none⟩ = some (.int .i64 u) := by rw [hcy j hltn, hyx j (Nat.le_refl _) hltn, hu]
      have h4 := hcy m (by omega)
      have h5 := hfy m (by omega)
      obtain ⟨z, hz⟩ : ∃ z, z = ys.getD m 0 := ⟨_, rfl⟩
      rw [← hz] at h4
      have HU : Hid (u = xs.getD j 0) := hu
      clear hu hz hyt hyx hcy hfy hyl hsz
      have HD : Hid (DelRel w' wr g n xs x j) := hdel
      clear hdel hgr
      by_cases hux : u = x
      · have HX : Hid (u = x) := hux
        have hb : (u == x) = true := by simpa using hux
        clear hux
        go_wp2_with (go_at_call 26; refine (clos _ _ _ _ hxr).mono ?_; rintro e w2 ⟨rfl, rfl⟩)
        go_roundw
        case rel => exact ⟨j + 1, m, by omega, by go_num, rfl, by omega, by rw [keepTo_hit xs x j (by have := HL.out; omega) (HU.out ▸ HX.out)]; exact HM, del_drop HD.out HL.out hltn (HU.out ▸ HX.out)⟩
        case measure => simp [intOf]; omega
      · have HX : Hid (¬ u = x) := hux
        have hb : (u == x) = false := by simpa using hux
        clear hux
        go_wp2_with (go_at_call 26; refine (clos _ _ _ _ hxr).mono ?_; rintro e w2 ⟨rfl, rfl⟩)
        go_roundw
        case rel =>
          refine ⟨j + 1, m + 1, by omega, by go_num, by go_num, by omega, ?_, ?_⟩
          · show m + 1 = _
            rw [keepTo_miss xs x j (by have := HL.out; omega) (HU.out ▸ HX.out)]; simp [HM.out]
          · have := del_keep HD.out HL.out hltn (HU.out ▸ HX.out) (by have := HM.out; omega)
            rw [← HM.out, ← HU.out] at this
            exact this
        case measure => simp [intOf]; omega
    · obtain rfl : j = n := by omega
      have hE := del_end hdel HL.out cap (j - m) (by have := HM.out; omega)
      rw [← HM.out] at hE
      have HE : Hid _ := hE
      have hcl : ∀ ty, (Builtin.clear_ #[23] ty #[.slice (some ⟨g, m, none⟩) (j - m) (cap - m)]).run Ybad.prog wr = .ok (.tuple #[]) (wr.setCells g m (List.replicate (j - m) (.int .i64 0))) :=
        fun ty => Lib.run_clear_slice wr 23 3 ty (.int .i64 0) Ybad.underlying23 zero3 rfl rfl g m (j - m) (cap - m) (by omega) (fun t ht => by rw [hcy (m + t) (by omega)]; rfl) (fun t ht => hfy (m + t) (by omega))
      clear hE hyt hyx hcy hfy hyl hsz hdel hgr
      go_wp2
      go_ret
      exact ⟨_, rfl, HE.out.1, HE.out.2.1, ⟨_, _, rfl⟩⟩

end Go.Proofs.YbulkchqmDoor
