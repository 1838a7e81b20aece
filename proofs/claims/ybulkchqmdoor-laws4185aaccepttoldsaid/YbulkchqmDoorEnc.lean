/-
  THE SEAT b4185aD: direct (15), tuple.encode (16).
-/
import Derived.Test.YbulkchqmDoorBut
namespace Go.Proofs.YbulkchqmDoor
open Go.RowKit
set_option linter.unusedVariables false

theorem direct_any (src : Int) (ao : Option Addr) (lm cm : Nat) (n : Nat) (w : World) (hn : n ≤ 65535) :
    Calls Ybad.prog 15 #[.int .i64 src, .slice ao lm cm, .int .i64 n] w fun e w' =>
      e = .returned (.agg #[.int .i64 src, .slice ao lm cm, .slice (some ⟨w.heap.size + 1, 0, none⟩) ((n + 63) / 64) ((n + 63) / 64)]) ∧
      (∀ j, j < (n + 63) / 64 → w'.cell? ⟨w.heap.size + 1, j, none⟩ = some (.int .u64 0)) ∧ Below w.heap.size w w' ∧ w.heap.size + 1 < w'.heap.size := by
  go_enter Ybad.func15, Ybad.ntmps15
  go_wp2_with (go_at_call 5; refine (newSet _ _ hn).mono ?_)
  rintro e w1 ⟨rfl, hown, hgr⟩
  have hb : Below (w.heap.size + 1) (w.alloc (.cells #[.int .i64 0, .slice none 0 0, .slice none 0 0] 43)) w1 := (Below.refl _ _).grown hgr (by simp) (by intro k hk; cases hk)
  have hsz : w.heap.size + 1 < w1.heap.size := by
    rcases hown.2 with ⟨h, _⟩ | ⟨g, cap, cur, hv, _, hh, _⟩
    · cases h
    · cases hv
      rcases Nat.lt_or_ge (w.heap.size + 1) w1.heap.size with h' | h'
      · exact h'
      · rw [World.size_alloc, Array.getElem?_eq_none h'] at hh; cases hh
  have hset : ∀ j, j < (n + 63) / 64 → w1.cell? ⟨w.heap.size + 1, j, none⟩ = some (.int .u64 0) := by
    intro j hj
    have := hown.cellAt j (by omega)
    rw [World.size_alloc] at this
    rw [this]; simp [hj]
  have hcf : (∀ o, w1.cell? ⟨w.heap.size, o, none⟩ = (w.alloc (.cells #[.int .i64 0, .slice none 0 0, .slice none 0 0] 43)).cell? ⟨w.heap.size, o, none⟩) ∧ (∀ o, w1.frozen? ⟨w.heap.size, o, none⟩ = (w.alloc (.cells #[.int .i64 0, .slice none 0 0, .slice none 0 0] 43)).frozen? ⟨w.heap.size, o, none⟩) :=
    ⟨fun o => hb.cell (p := ⟨w.heap.size, o, none⟩) (by simp), fun o => hb.frozen (p := ⟨w.heap.size, o, none⟩) (by simp)⟩
  obtain ⟨hc, hf⟩ := hcf
  have c0 : w1.cell? ⟨w.heap.size, 0, none⟩ = some (.int .i64 0) := by rw [hc]; simp
  have c1 : w1.cell? ⟨w.heap.size, 1, none⟩ = some (.slice none 0 0) := by rw [hc]; simp
  have c2 : w1.cell? ⟨w.heap.size, 2, none⟩ = some (.slice none 0 0) := by rw [hc]; simp
  have f0 : w1.frozen? ⟨w.heap.size, 0, none⟩ = false := by rw [hf]; simp
  have f1 : w1.frozen? ⟨w.heap.size, 1, none⟩ = false := by rw [hf]; simp
  have f2 : w1.frozen? ⟨w.heap.size, 2, none⟩ = false := by rw [hf]; simp
  have HB : Hid (Below w.heap.size w w1) := ((Below.refl _ _).alloc (Nat.le_refl _) _).trans (hb.mono (by omega))
  have HSET : Hid (∀ j, j < (n + 63) / 64 → w1.cell? ⟨w.heap.size + 1, j, none⟩ = some (.int .u64 0)) := hset
  clear hown hgr hb hc hf hset
  go_wp2
  refine bodyPost_ret (v := .agg #[.int .i64 src, .slice ao lm cm, .slice (some ⟨w.heap.size + 1, 0, none⟩) ((n + 63) / 64) ((n + 63) / 64)]) (by simp [results, Ybad.results15, go_sem, c0, c1, c2]) rfl ⟨rfl, fun j hj => ?_, ((HB.out.setCell (Nat.le_refl _) _).setCell (Nat.le_refl _) _).setCell (Nat.le_refl _) _, by simpa [World.setCell] using hsz⟩
  rw [World.cell?_setCell_other _ _ _ _ (by simp), World.cell?_setCell_other _ _ _ _ (by simp), World.cell?_setCell_other _ _ _ _ (by simp)]
  exact HSET.out j hj

/-- what encode writes: the source and the length big-endian, the message, two zeros. -/
def wire (src : Int) (msg : List Int) : List Int :=
  [src % 65536 / 256, src % 65536 % 256, (msg.length : Int) / 256, (msg.length : Int) % 256] ++ msg ++ [0, 0]

@[go_sem] theorem loadBE (w : World) : (Instr.loadAt 104 (.pointer (some ⟨0, 0, none⟩))).run Ybad.prog w = .ok (.agg #[]) w := by kernel_rfl

/-- the three cells of a box. -/
def Box3 (w : World) (B : Nat) (a b c : Value) : Prop := w.cell? ⟨B, 0, none⟩ = some a ∧ w.cell? ⟨B, 1, none⟩ = some b ∧ w.cell? ⟨B, 2, none⟩ = some c

theorem Box3.kept {w w' : World} {B : Nat} {a b c : Value} {row : Option Nat} (h : Box3 w B a b c) (hg : w.grownBy w' row) (hne : some B ≠ row) : Box3 w' B a b c :=
  ⟨hg.cell h.1 hne, hg.cell h.2.1 hne, hg.cell h.2.2 hne⟩

theorem Box3.made (w : World) (a b c : Value) (t : TypeId) : Box3 (w.alloc (.cells #[a, b, c] t)) w.heap.size a b c := ⟨by simp, by simp, by simp⟩

theorem own_ne {w : World} {base e size : Nat} {v : Value} {n : Nat} {xs : List Value} (h : w.ownsRow base e size v n xs) {B : Nat} (hB : B < base) : some B ≠ v.ownBlock := by
  rcases h.2 with ⟨rfl, _⟩ | ⟨g, cap, cur, rfl, hg, _⟩
  · simp [Value.ownBlock]
  · simp [Value.ownBlock]; omega

theorem own_ge {w : World} {base e size : Nat} {v : Value} {n : Nat} {xs : List Value} (h : w.ownsRow base e size v n xs) : ∀ k, v.ownBlock = some k → base ≤ k := by
  rcases h.2 with ⟨rfl, _⟩ | ⟨g, cap, cur, rfl, hg, _⟩
  · intro k hk; cases hk
  · intro k hk; cases hk; exact hg

theorem own_base {w : World} {base base' e size : Nat} {v : Value} {n : Nat} {xs : List Value} (h : w.ownsRow base e size v n xs) (hb : base' ≤ base) : w.ownsRow base' e size v n xs := by
  refine ⟨h.1, ?_⟩
  rcases h.2 with h1 | ⟨g, cap, cur, hv, hg, r⟩
  · exact .inl h1
  · exact .inr ⟨g, cap, cur, hv, by omega, r⟩

theorem encode_nil (src : Int) (b m : Nat) (w : World) (hm : m ≤ 1024) (hset : ∀ j, j < m → w.cell? ⟨b, j, none⟩ = some (.int .u64 0)) :
    Calls Ybad.prog 16 #[.agg #[.int .i64 src, .slice none 0 0, .slice (some ⟨b, 0, none⟩) m m]] w fun e w' =>
      ∃ v, e = .returned v ∧ w'.ownsRow w.heap.size 5 1 v 6 ((wire src []).map (Value.int .u8)) ∧ Below w.heap.size w w' := by
  have hset2 : ∀ o : Obj, ∀ j, j < m → (w.alloc o).cell? ⟨b, j, none⟩ = some (.int .u64 0) := fun o j hj => Lib.cell?_alloc_some _ (hset j hj)
  have HS : Hid (∀ o : Obj, ∀ j, j < m → (w.alloc o).cell? ⟨b, j, none⟩ = some (.int .u64 0)) := hset2
  clear hset hset2
  obtain ⟨i0, hi, hz0, hz1, hz2⟩ := info_parts info5
  have hsw : IntKind.u16.wrap src = src % 65536 := IntKind.wrap_u16 src
  go_enter Ybad.func16, Ybad.ntmps16
  go_wp2_with (first | (go_at_call 27; refine (ids_zero _ _ _ hm (HS.out _)).mono ?_; rintro e w1 ⟨rfl, rfl⟩) | (at_make; refine wpList_make_own _ rfl _ _ 22 rfl (w.heap.size + 1) 5 i0 (.int .u8 0) 1 Ybad.underlying22 hi hz0 hz1 .i64 .i64 _ 6 rfl rfl (by omega) (by rw [hz2]; omega) (by unfold maxLen; omega) (by simp) ?_; intro w1 hown1 hgrow1; obtain ⟨c0, c1, c2⟩ := (Box3.made w (.int .i64 src) (.slice none 0 0) (.slice (some ⟨b, 0, none⟩) m m) 43).kept hgrow1 (by simp); rw [World.size_alloc] at hown1; have hs1 : w.heap.size + 1 ≤ w1.heap.size := (by have := hgrow1.size; rw [World.size_alloc] at this; exact this)) | (go_at_call 28; refine (app16 _ 0 [] _ (w.heap.size + 1) _ hown1 hs1 (by omega) (by omega) (by omega)).mono ?_))
  rintro e w2 ⟨v2, rfl, hown2, hg2⟩
  obtain ⟨c0', c1', c2'⟩ := Box3.kept ⟨c0, c1, c2⟩ hg2 (own_ne hown1 (by omega))
  have hs2 : w.heap.size + 1 ≤ w2.heap.size := Nat.le_trans hs1 hg2.size
  have HB2 : Hid (Below w.heap.size w w2) := (((Below.refl _ _).alloc (Nat.le_refl _) _).grown hgrow1 (by simp) (by intro k hk; cases hk)).grown hg2 (by omega) (fun k hk => by have := own_ge hown1 k hk; omega)
  clear hown1 hgrow1 hg2 c0 c1 c2 hs1
  go_wp2_with (go_at_call 28; refine (app16 _ 2 _ _ (w.heap.size + 1) _ hown2 hs2 (by omega) (by omega) (by omega)).mono ?_)
  rintro e w3 ⟨v3, rfl, hown3, hg3⟩
  obtain ⟨c0, c1, c2⟩ := Box3.kept ⟨c0', c1', c2'⟩ hg3 (own_ne hown2 (by omega))
  have hs3 : w.heap.size + 1 ≤ w3.heap.size := Nat.le_trans hs2 hg3.size
  have HB3 : Hid (Below w.heap.size w w3) := HB2.out.grown hg3 (by omega) (fun k hk => by have := own_ge hown2 k hk; omega)
  clear hown2 hg3 c0' c1' c2' hs2 HB2
  go_wp2_with (first | (at_builtin; refine wpList_append_own_none rfl _ _ 22 rfl (w.heap.size + 1) 5 i0 1 Ybad.underlying22 hi v3 4 _ rfl hown3 rfl ?_) | (go_at_call 28; refine (app16 _ 4 _ _ (w.heap.size + 1) _ hown3 hs3 (by omega) (by omega) (by omega)).mono ?_))
  rintro e w4 ⟨v4, rfl, hown4, hg4⟩
  have HB4 : Hid (Below w.heap.size w w4) := HB3.out.grown hg4 (by omega) (fun k hk => by have := own_ge hown3 k hk; omega)
  have ho : w4.ownsRow w.heap.size 5 1 v4 6 ((wire src []).map (Value.int .u8)) := by
    have := own_base hown4 (base' := w.heap.size) (by omega)
    simpa [wire] using this
  have HO : Hid (w4.ownsRow w.heap.size 5 1 v4 6 ((wire src []).map (Value.int .u8))) := ho
  clear ho
  clear hown3 hown4 hg4 c0 c1 c2 hs3 HB3
  go_wp2
  refine wp_loop_rounds 1 ?_
  rw [rounds_succ]
  go_wp2
  go_ret
  exact ⟨_, rfl, HO.out, HB4.out⟩

theorem encode_some (src : Int) (b m : Nat) (mb mo lm cm : Nat) (msg : List Int) (w : World) (hm : m ≤ 1024) (hset : ∀ j, j < m → w.cell? ⟨b, j, none⟩ = some (.int .u64 0))
    (hlm : lm ≤ 4096) (hl : msg.length = lm) (hmsg : ∀ j, j < lm → w.cell? ⟨mb, mo + j, none⟩ = some (.int .u8 (msg.getD j 0))) :
    Calls Ybad.prog 16 #[.agg #[.int .i64 src, .slice (some ⟨mb, mo, none⟩) lm cm, .slice (some ⟨b, 0, none⟩) m m]] w fun e w' =>
      ∃ v, e = .returned v ∧ w'.ownsRow w.heap.size 5 1 v (lm + 6) ((wire src msg).map (Value.int .u8)) ∧ Below w.heap.size w w' := by
  have hset2 : ∀ o : Obj, ∀ j, j < m → (w.alloc o).cell? ⟨b, j, none⟩ = some (.int .u64 0) := fun o j hj => Lib.cell?_alloc_some _ (hset j hj)
  have HS : Hid (∀ o : Obj, ∀ j, j < m → (w.alloc o).cell? ⟨b, j, none⟩ = some (.int .u64 0)) := hset2
  have HM : Hid (∀ wx, Below w.heap.size w wx → ∀ j u, (msg.map (Value.int .u8))[j]? = some u → wx.cell? ((⟨mb, mo, none⟩ : Addr).add j) = some u) := by
    intro wx hb j u hj
    have hjl : j < msg.length := by
      rcases Nat.lt_or_ge j msg.length with h | h
      · exact h
      · rw [List.getElem?_eq_none (by simpa using h)] at hj; cases hj
    rw [ints_get _ _ _ hjl] at hj
    cases hj
    rw [addr_add]
    exact cell_later hb (hmsg j (by omega))
  have HL : Hid (msg.length = lm) := hl
  clear hset hset2 hmsg hl
  obtain ⟨i0, hi, hz0, hz1, hz2⟩ := info_parts info5
  have hsw : IntKind.u16.wrap src = src % 65536 := IntKind.wrap_u16 src
  have hlw : IntKind.u16.wrap (lm : Int) = lm := by rw [IntKind.wrap_u16]; omega
  go_enter Ybad.func16, Ybad.ntmps16
  go_wp2_with (first | (go_at_call 27; refine (ids_zero _ _ _ hm (HS.out _)).mono ?_; rintro e w1 ⟨rfl, rfl⟩) | (at_make; refine wpList_make_own _ rfl _ _ 22 rfl (w.heap.size + 1) 5 i0 (.int .u8 0) 1 Ybad.underlying22 hi hz0 hz1 .i64 .i64 _ (6 + lm) rfl rfl (by omega) (by rw [hz2]; omega) (by unfold maxLen; omega) (by simp) ?_; intro w1 hown1 hgrow1; obtain ⟨c0, c1, c2⟩ := (Box3.made w (.int .i64 src) (.slice (some ⟨mb, mo, none⟩) lm cm) (.slice (some ⟨b, 0, none⟩) m m) 43).kept hgrow1 (by simp); rw [World.size_alloc] at hown1; have hs1 : w.heap.size + 1 ≤ w1.heap.size := (by have := hgrow1.size; rw [World.size_alloc] at this; exact this)) | (go_at_call 28; refine (app16 _ 0 [] _ (w.heap.size + 1) _ hown1 hs1 (by omega) (by omega) (by omega)).mono ?_))
  rintro e w2 ⟨v2, rfl, hown2, hg2⟩
  obtain ⟨c0', c1', c2'⟩ := Box3.kept ⟨c0, c1, c2⟩ hg2 (own_ne hown1 (by omega))
  have hs2 : w.heap.size + 1 ≤ w2.heap.size := Nat.le_trans hs1 hg2.size
  have HB2 : Hid (Below w.heap.size w w2) := (((Below.refl _ _).alloc (Nat.le_refl _) _).grown hgrow1 (by simp) (by intro k hk; cases hk)).grown hg2 (by omega) (fun k hk => by have := own_ge hown1 k hk; omega)
  clear hown1 hgrow1 hg2 c0 c1 c2 hs1
  go_wp2_with (go_at_call 28; refine (app16 _ 2 _ _ (w.heap.size + 1) _ hown2 hs2 (by omega) (by omega) (by omega)).mono ?_)
  rintro e w3 ⟨v3, rfl, hown3, hg3⟩
  obtain ⟨c0, c1, c2⟩ := Box3.kept ⟨c0', c1', c2'⟩ hg3 (own_ne hown2 (by omega))
  have hs3 : w.heap.size + 1 ≤ w3.heap.size := Nat.le_trans hs2 hg3.size
  have HB3 : Hid (Below w.heap.size w w3) := HB2.out.grown hg3 (by omega) (fun k hk => by have := own_ge hown2 k hk; omega)
  clear hown2 hg3 c0' c1' c2' hs2 HB2
  go_wp2_with (first | (at_builtin; refine wpList_append_own _ rfl _ _ 22 rfl (w.heap.size + 1) 5 i0 (.int .u8 0) 1 1 Ybad.underlying22 hi hz0 hz1 hz2 rfl (by decide) v3 4 _ rfl hown3 ⟨mb, mo, none⟩ lm cm (msg.map (Value.int .u8)) rfl (by simpa using HL.out) (HM.out _ HB3.out) (ints_one _ _) (by unfold maxLen; omega) (by omega) hs3 ?_; intro v4 w4 hown4 hg4 hnil4; have hs4 : w.heap.size + 1 ≤ w4.heap.size := Nat.le_trans hs3 hg4.size) | (go_at_call 28; refine (app16 _ (4 + lm) _ _ (w.heap.size + 1) _ hown4 hs4 (by omega) (by omega) (by omega)).mono ?_))
  rintro e w5 ⟨v5, rfl, hown5, hg5⟩
  have HB5 : Hid (Below w.heap.size w w5) := (HB3.out.grown hg4 (by omega) (fun k hk => by have := own_ge hown3 k hk; omega)).grown hg5 (by omega) (fun k hk => by have := own_ge hown4 k hk; omega)
  have ho : w5.ownsRow w.heap.size 5 1 v5 (lm + 6) ((wire src msg).map (Value.int .u8)) := by
    have := own_base hown5 (base' := w.heap.size) (by omega)
    rw [show 4 + lm + 2 = lm + 6 by omega] at this
    simpa [wire, HL.out] using this
  have HO : Hid (w5.ownsRow w.heap.size 5 1 v5 (lm + 6) ((wire src msg).map (Value.int .u8))) := ho
  clear hown3 hown4 hown5 hg4 hg5 c0 c1 c2 hs3 HB3 ho
  go_wp2
  refine wp_loop_rounds 1 ?_
  rw [rounds_succ]
  go_wp2
  go_ret
  exact ⟨_, rfl, HO.out, HB5.out⟩

end Go.Proofs.YbulkchqmDoor
