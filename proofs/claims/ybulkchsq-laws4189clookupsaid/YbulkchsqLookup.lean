/-
  'layout.LawS4189CLookup': THE STATEMENT, PROVED.
-/
import Derived.Test.YbulkchsqLook2
import Derived.ProofKit
import Derived.OpenShut
import Derived.ShutString
import Derived.ChangeOld
import Derived.SliceStrings
import Derived.Deep.SlicePairs
namespace Go.Proofs.Ybulkchsq
open Go.ChangeShapes Go.WideShapes Go.ChangeAt Go.RowKit
set_option linter.unusedVariables false

theorem own3 : ownKnob Yba.prog.godebug = none := by kernel_rfl
theorem laidOut3 : laidOutB Yba.prog = true := by kernel_rfl

theorem spot_none {w : World} {a : Addr} {v : Value} (h : w.cell? a = some v) : ∃ b off, a = ⟨b, off, none⟩ := by
  obtain ⟨b, off, spot⟩ := a
  have hspot : spot = none := by simpa using World.cell?_spot h
  subst hspot
  exact ⟨b, off, rfl⟩

theorem addr_add (b off j : Nat) : (⟨b, off, none⟩ : Addr).add j = ⟨b, off + j, none⟩ := by
  unfold Addr.add
  split <;> simp_all

/-- WHAT THE WALK IS TOLD OF A SLICE OF STRINGS THAT CAME IN. -/
theorem strings_in {H : Type} {enc : TypeId × Value → H} {W : World} {base : Nat} {sp : Nat → Bool} {held : Bool} {v : Value} {d : DataW H} {ps : List MemPlace} {a : Option Addr} {len cap : Nat} (h : DataW.Trod enc Yba.prog W base sp held 23 (.slice a len cap) d ps) :
    len ≤ maxLen ∧ ∃ qs : List ByteArray, qs.length = len ∧ HoldsS W (.slice a len cap) qs ∧ ∀ s ∈ qs, s.size ≤ maxLen := by
  obtain ⟨fuel, hf⟩ := h
  rcases open_strings Yba.underlying23 Yba.underlying9 (by kernel_rfl) hf with ⟨hcs, _⟩ | ⟨x, l, c, ss, hcs, _, hl, hm, hz, _, hcell, hwz⟩
  · simp [Value.cells] at hcs
    obtain ⟨rfl, rfl, rfl⟩ := hcs
    exact ⟨by unfold maxLen; omega, [], rfl, ⟨none, 0, rfl, .inl rfl⟩, fun s hs => by simp at hs⟩
  · simp [Value.cells] at hcs
    obtain ⟨rfl, rfl, rfl⟩ := hcs
    have hss : len ≤ ss.length := by rw [hz]; split <;> omega
    have htl : (ss.take len).length = len := by simp; omega
    refine ⟨by omega, ss.take len, htl, ⟨_, _, by rw [htl], ?_⟩, fun s hs => hwz s (List.mem_of_mem_take hs)⟩
    by_cases h0 : len = 0
    · exact .inl (by rw [h0]; rfl)
    · have h1 := hcell 0 (by omega)
      obtain ⟨b, off, hb⟩ := spot_none (a := x) (by simpa [Addr.add] using h1)
      subst hb
      refine .inr ⟨b, off, rfl, fun j hj => ?_⟩
      rw [htl] at hj
      have := hcell j (by omega)
      rw [addr_add] at this
      rw [this]
      simp [List.getD_eq_getElem?_getD, List.getElem?_take_of_lt hj]
      rfl

/-- WHAT THE WALK IS TOLD OF THE PAIRS THAT CAME IN. -/
theorem pairs_in {H : Type} {enc : TypeId × Value → H} {W : World} {base : Nat} {sp : Nat → Bool} {held : Bool} {d : DataW H} {ps : List MemPlace} {a : Option Addr} {len cap : Nat} (h : DataW.Trod enc Yba.prog W base sp held 22 (.slice a len cap) d ps) :
    len ≤ maxLen ∧ (len = 0 ∨ ∃ pb po pks pvs, a = some ⟨pb, po, none⟩ ∧ List.length pks = len ∧ Pairs W pb po pks pvs) := by
  obtain ⟨fuel, hf⟩ := h
  rcases Deep.open_slice_pairs Yba.underlying22 Yba.underlying34 (by kernel_rfl) rfl rfl (by kernel_rfl) (by kernel_rfl) hf with ⟨hcs, _⟩ | ⟨x, l, c, m, n, V0, V1, D0, D1, P0, P1, hcs, _, hl, hm, hmm, _, hx⟩
  · simp [Value.cells] at hcs
    obtain ⟨rfl, rfl, rfl⟩ := hcs
    exact ⟨by unfold maxLen; omega, .inl rfl⟩
  · simp [Value.cells] at hcs
    obtain ⟨rfl, rfl, rfl⟩ := hcs
    have hlm : len ≤ m := by rw [hmm]; split <;> omega
    refine ⟨by omega, ?_⟩
    by_cases h0 : len = 0
    · exact .inl h0
    · right
      obtain ⟨b, off, hb⟩ := spot_none (a := x) (by simpa [Addr.add] using (hx 0 (by omega)).1)
      subst hb
      have each : ∀ i, i < m → ∃ k v : ByteArray, W.cell? ⟨b, off + i * 2, none⟩ = some (.string k) ∧ W.cell? ⟨b, off + i * 2 + 1, none⟩ = some (.string v) ∧ k.size ≤ maxLen ∧ v.size ≤ maxLen := fun i hi => by
        obtain ⟨h1, h2, h3, h4⟩ := hx i hi
        obtain ⟨k, e1, _, s1⟩ := DataW.trod_string Yba.underlying9 h3
        obtain ⟨v, e2, _, s2⟩ := DataW.trod_string Yba.underlying9 h4
        simp at e1 e2
        rw [addr_add] at h1 h2
        exact ⟨k, v, by rw [h1, e1], by rw [show off + i * 2 + 1 = off + (i * 2 + 1) by omega, h2, e2], s1, s2⟩
      have each' : ∀ i, ∃ q : ByteArray × ByteArray, i < m → W.cell? ⟨b, off + i * 2, none⟩ = some (.string q.1) ∧ W.cell? ⟨b, off + i * 2 + 1, none⟩ = some (.string q.2) ∧ q.1.size ≤ maxLen ∧ q.2.size ≤ maxLen := fun i => by
        by_cases hi : i < m
        · obtain ⟨k, v, h⟩ := each i hi
          exact ⟨(k, v), fun _ => h⟩
        · exact ⟨(e0, e0), fun h => absurd h hi⟩
      obtain ⟨Q, hQ⟩ : ∃ Q : Nat → ByteArray × ByteArray, ∀ i, i < m → W.cell? ⟨b, off + i * 2, none⟩ = some (.string (Q i).1) ∧ W.cell? ⟨b, off + i * 2 + 1, none⟩ = some (.string (Q i).2) ∧ (Q i).1.size ≤ maxLen ∧ (Q i).2.size ≤ maxLen := ⟨fun i => Classical.choose (each' i), fun i => Classical.choose_spec (each' i)⟩
      refine ⟨b, off, (List.range len).map fun i => (Q i).1, (List.range len).map fun i => (Q i).2, rfl, by simp, fun j hj => ?_⟩
      have hj' : j < len := by simpa using hj
      have e1 : ((List.range len).map fun i => (Q i).1).getD j e0 = (Q j).1 := by simp [List.getD_eq_getElem?_getD, hj']
      have e2 : ((List.range len).map fun i => (Q i).2).getD j e0 = (Q j).2 := by simp [List.getD_eq_getElem?_getD, hj']
      rw [e1, e2]
      exact hQ j (by omega)

set_option maxRecDepth 100000 in
theorem lookup_lifted (os : Os) (started : os.Started) (H : Type) (enc : TypeId × Value → H) :
    ReturnsInHanded {} Yba.checked os 3 .any (Rows.lawS4189CLookupSpec.pre6 enc Yba.prog Yba.f3 Rows.lawS4189CLookupRow.domain false) (Rows.lawS4189CLookupSpec.post enc Yba.prog Yba.f3 false true false false) := by
  refine returnsInHanded_of_change (C := Yba.checked) own3 started (by kernel_rfl) Yba.func3
    (ChangeSpec.witness6 (enc := enc) (C := Yba.checked) false ⟨#[], #[.slice none 0 0, .slice none 0 0], []⟩ 8 (by kernel_rfl) (by kernel_rfl) (by kernel_rfl) (by kernel_rfl)) ?_
  intro W base args ds gs before hval0 hW hcnd _
  have hval : ∀ (j : Nat) t v, Yba.f3.params[j]? = some t → args[j]? = some v → Value.okWide Yba.prog W .any base t v := hval0
  have hW' := hW
  obtain ⟨p, q, hA0, hV, rfl, hfz, hnd⟩ := hW
  have hA : DataW.TrodAll enc Yba.prog W 0 (fun _ => true) true Yba.f3.params.toList args.toList ds p := hA0
  rw [Yba.params3] at hA hval
  obtain ⟨v0, v1, d0, d1, p0, p1, rfl, rfl, rfl, h0, h1⟩ := trodAll_two hA
  obtain ⟨rfl, rfl⟩ := trodVars_none hV
  obtain ⟨a0, len0, cap0, rfl⟩ := okWide_slice Yba.underlying22 (hval 0 22 v0 rfl rfl)
  have lt0 : ∀ x ∈ p0, x.block < W.heap.size := by obtain ⟨m, hm⟩ := h0; exact DataW.trod_lt m _ _ _ hm
  obtain ⟨a1, len1, cap1, rfl⟩ := okWide_slice Yba.underlying23 (hval 1 23 v1 rfl rfl)
  have lt1 : ∀ x ∈ p1, x.block < W.heap.size := by obtain ⟨m, hm⟩ := h1; exact DataW.trod_lt m _ _ _ hm
  clear hA0 hval0
  have key : Calls Yba.prog 3 #[.slice a0 len0 cap0, .slice a1 len1 cap1] W fun e w' => e = .returned (.bool true) ∧ Below W.heap.size W w' := by
    obtain ⟨m0, hp⟩ := pairs_in h0
    obtain ⟨m1, qs, rfl, hq, hqs⟩ := strings_in (v := .nilIface) h1
    by_cases hlong : 1024 < len0 ∨ 1024 < qs.length
    · refine (lookup_long a0 a1 len0 cap0 qs.length cap1 W m0 m1 hlong).mono ?_
      rintro e w' ⟨rfl, rfl⟩
      exact ⟨rfl, Below.refl _ _⟩
    · by_cases hz : len0 = 0
      · subst hz
        exact lookup_none cap0 cap1 a0 a1 qs W (by omega) hq hqs
      · rcases hp with hp | ⟨pb, po, pks, pvs, rfl, rfl, hP⟩
        · exact absurd hp hz
        · exact lookup_some pb po cap0 cap1 a1 pks pvs qs W (by omega) (by omega) (by omega) hP hq hqs
  refine key.mono fun e W' ⟨he, bel⟩ => ?_
  subst he
  exact ⟨_, rfl, _, _, _, [], _, [], hW', trodAll_mk1 (shut_bool Yba.underlying4 _), (trodAll_cons_mk (Below.trod laidOut3 (by kernel_rfl) (of_decide_eq_true (by kernel_rfl)) h0 bel lt0) (trodAll_cons_mk (Below.trod laidOut3 (by kernel_rfl) (of_decide_eq_true (by kernel_rfl)) h1 bel lt1) trodAll_mk0)), rfl, bel.frame _, fun h => by cases h⟩

/-- THE STATEMENT -/
theorem lookup_proved : Rows.LawS4189CLookupSaid :=
  OpenClaim.holds_of_wide 3 Yba.f3 rfl rfl rfl rfl rfl rfl rfl ⟨rfl, rfl, rfl, rfl, rfl⟩ rfl rfl rfl rfl rfl (by kernel_rfl) Yba.func3 (by kernel_rfl)
    (of_decide_eq_true (by kernel_rfl)) (by unfold Func.isWrapper; rw [if_neg (of_decide_eq_false (by kernel_rfl))]; exact ⟨rfl, rfl⟩)
    (fun os started H enc _ => lookup_lifted os started H enc)
#print axioms lookup_proved
end Go.Proofs.Ybulkchsq
