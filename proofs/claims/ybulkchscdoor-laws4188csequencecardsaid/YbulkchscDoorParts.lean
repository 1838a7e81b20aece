/-
  THE SEAT b4188aD: laws for slices cut, for the copy, for errShort.
-/
import Derived.Test.YbulkchscDoorBase
import Derived.LaidEql
import Derived.Laws.CopyOwn
namespace Go.Proofs.YbulkchscDoor
open Go.RowKit
set_option linter.unusedVariables false

theorem addr_add (b off j : Nat) : (⟨b, off, none⟩ : Addr).add j = ⟨b, off + j, none⟩ := by
  unfold Addr.add
  split <;> simp_all

theorem size5 (w : World) : (sizeOf (Ybad.prog.elem 22)).run Ybad.prog w = .ok 1 w := by kernel_rfl

/-- 'x[lo:hi]', whatever slice x that reads as xs: it reads as the piece. -/
theorem holds_cut {w : World} {a : Option Addr} {cap lo hi : Nat} {xs : List Int} (h : HoldsI w (.slice a xs.length cap) xs) (h1 : lo ≤ hi) (h2 : hi ≤ xs.length) (hcap : xs.length ≤ cap) :
    HoldsI w (sliced a lo hi cap 1) ((xs.take hi).drop lo) := by
  obtain ⟨ao, c, hv, h⟩ := h
  simp only [Value.slice.injEq, true_and] at hv
  obtain ⟨rfl, rfl⟩ := hv
  have hlen : ((xs.take hi).drop lo).length = hi - lo := by simp; omega
  refine ⟨_, _, by rw [hlen]; rfl, ?_⟩
  by_cases h0 : hi - lo = 0
  · exact .inl (List.eq_nil_of_length_eq_zero (by omega))
  · rcases h with rfl | ⟨b, off, rfl, hc⟩
    · simp at h2; omega
    · refine .inr ⟨b, off + lo, ?_, fun j hj => ?_⟩
      · rw [if_neg (by omega)]
        simp [addr_add]
      · rw [hlen] at hj
        rw [show off + lo + j = off + (lo + j) by omega, hc (lo + j) (by omega)]
        simp [List.getD_eq_getElem?_getD, List.getElem?_drop, show lo + j < hi by omega]

theorem sliced_form (a : Option Addr) (lo hi cap : Nat) : ∃ a', sliced a lo hi cap 1 = .slice a' (hi - lo) (cap - lo) := ⟨_, rfl⟩

/-- 'x[:hi]' -/
theorem cut_to {w0 : World} {a : Option Addr} {cap hi : Nat} {xs : List Int} (h : HoldsI w0 (.slice a xs.length cap) xs) (h2 : hi ≤ xs.length) (hcap : xs.length ≤ cap) :
    ∃ a', (∀ w, (Instr.slice 22 (.slice a xs.length cap) none (some (.int .i64 (hi : Int))) none).run Ybad.prog w = .ok (.slice a' hi cap) w) ∧ HoldsI w0 (.slice a' hi cap) (xs.take hi) := by
  refine ⟨if cap = 0 then a else a.map (·.add 0), fun w => ?_, by simpa [sliced] using holds_cut h (Nat.zero_le hi) h2 hcap⟩
  have := run_slice_h (P := Ybad.prog) (w := w) (t := 22) (a := a) (len := xs.length) (cap := cap) Ybad.underlying22 .i64 (hi : Int) (by omega) (by omega)
  rw [this, size5]
  simp [Result.andThen, sliced]

/-- 'x[lo:]' -/
theorem cut_from {w0 : World} {a : Option Addr} {cap lo : Nat} {xs : List Int} (h : HoldsI w0 (.slice a xs.length cap) xs) (h2 : lo ≤ xs.length) (hcap : xs.length ≤ cap) :
    ∃ a', (∀ w, (Instr.slice 22 (.slice a xs.length cap) (some (.int .i64 (lo : Int))) none none).run Ybad.prog w = .ok (.slice a' (xs.length - lo) (cap - lo)) w) ∧ HoldsI w0 (.slice a' (xs.length - lo) (cap - lo)) (xs.drop lo) := by
  refine ⟨if cap = lo then a else a.map (·.add lo), fun w => ?_, by simpa [sliced] using holds_cut h h2 (Nat.le_refl _) hcap⟩
  have := run_slice_l (P := Ybad.prog) (w := w) (t := 22) (a := a) (len := xs.length) (cap := cap) Ybad.underlying22 .i64 (lo : Int) (by omega) (by omega)
  rw [this, size5]
  simp [Result.andThen, sliced]

/-- 'x[lo:hi]' -/
theorem cut_mid {w0 : World} {a : Option Addr} {cap lo hi : Nat} {xs : List Int} (h : HoldsI w0 (.slice a xs.length cap) xs) (h1 : lo ≤ hi) (h2 : hi ≤ xs.length) (hcap : xs.length ≤ cap) :
    ∃ a', (∀ w, (Instr.slice 22 (.slice a xs.length cap) (some (.int .i64 (lo : Int))) (some (.int .i64 (hi : Int))) none).run Ybad.prog w = .ok (.slice a' (hi - lo) (cap - lo)) w) ∧ HoldsI w0 (.slice a' (hi - lo) (cap - lo)) ((xs.take hi).drop lo) := by
  refine ⟨if cap = lo then a else a.map (·.add lo), fun w => ?_, by simpa [sliced] using holds_cut h h1 h2 hcap⟩
  have := run_slice_lh (P := Ybad.prog) (w := w) (t := 22) (a := a) (len := xs.length) (cap := cap) Ybad.underlying22 .i64 .i64 (lo : Int) (hi : Int) (by omega) (by omega) (by omega)
  rw [this, size5]
  simp [Result.andThen, sliced]

theorem holds_take {w : World} {g o l cp cp' k : Nat} {ys : List Int} (h : HoldsI w (.slice (some ⟨g, o, none⟩) l cp) ys) (hk : k ≤ l) : HoldsI w (.slice (some ⟨g, o, none⟩) k cp') (ys.take k) := by
  obtain ⟨ao, c, hv, h⟩ := h
  simp only [Value.slice.injEq] at hv
  obtain ⟨rfl, rfl, rfl⟩ := hv
  have hl : (ys.take k).length = k := by simp; omega
  refine ⟨_, _, by rw [hl], ?_⟩
  rcases h with rfl | ⟨b, off, hb, hc⟩
  · exact .inl (by simp)
  · cases hb
    refine .inr ⟨g, o, rfl, fun j hj => ?_⟩
    rw [hl] at hj
    rw [hc j (by omega)]
    simp [List.getD_eq_getElem?_getD, List.getElem?_take_of_lt hj]

theorem holds_drop {w : World} {g o o' l cp cp' k : Nat} {ys : List Int} (h : HoldsI w (.slice (some ⟨g, o, none⟩) l cp) ys) (ho : l - k ≠ 0 → o' = o + k) : HoldsI w (.slice (some ⟨g, o', none⟩) (l - k) cp') (ys.drop k) := by
  obtain ⟨ao, c, hv, h⟩ := h
  simp only [Value.slice.injEq] at hv
  obtain ⟨rfl, rfl, rfl⟩ := hv
  have hl : (ys.drop k).length = ys.length - k := by simp
  refine ⟨_, _, by rw [hl], ?_⟩
  by_cases h0 : ys.length - k = 0
  · exact .inl (List.eq_nil_of_length_eq_zero (by omega))
  · rcases h with rfl | ⟨b, off, hb, hc⟩
    · simp at h0
    · cases hb
      refine .inr ⟨g, o', rfl, fun j hj => ?_⟩
      rw [hl] at hj
      rw [ho h0, show o + k + j = o + (k + j) by omega, hc (k + j) (by omega)]
      simp [List.getD_eq_getElem?_getD, List.getElem?_drop]

/-- a store into the buffer's cell turns no byte. -/
theorem store_keeps {w : World} {p : Addr} {v0 v1 : Value} (h0 : w.cell? p = some v0) (hv : ∀ u, v0 ≠ .int .u8 u) : ∀ a u, w.cell? a = some (.int .u8 u) → (w.setCell p v1).cell? a = some (.int .u8 u) := fun a u ha => by
  rw [World.cell?_setCell_other _ _ _ _ (fun e => by subst e; rw [h0] at ha; exact hv u (Option.some.inj ha))]
  exact ha

theorem inf31 : (Ybad.prog.info? 31).map (·.comparable) = some true := by kernel_rfl
theorem inf52 : (Ybad.prog.info? 52).isSome = true := by kernel_rfl

theorem eqE (w : World) (ea : Addr) : (binOp .eql 25 (.iface 31 (.pointer (some ea))) (.iface 31 (.pointer (some ea)))).run Ybad.prog w = .ok (.bool true) w := by
  obtain ⟨i, hi, hc⟩ := Option.map_eq_some_iff.1 inf31
  obtain ⟨j, hj⟩ := Option.isSome_iff_exists.1 inf52
  exact run_eql_iface_ptr_same w ea Ybad.underlying25 Ybad.underlying31 hi hc hj

theorem neE (w : World) (ea : Addr) : (binOp .neq 25 (.iface 31 (.pointer (some ea))) (.iface 31 (.pointer (some ea)))).run Ybad.prog w = .ok (.bool false) w := by
  obtain ⟨i, hi, hc⟩ := Option.map_eq_some_iff.1 inf31
  obtain ⟨j, hj⟩ := Option.isSome_iff_exists.1 inf52
  simp only [binOp]
  simp [Op.equal, Op.maxDepth, run_equalIn_iface_ptr_same w 9998 ea Ybad.underlying25 Ybad.underlying31 hi hc hj]

end Go.Proofs.YbulkchscDoor
