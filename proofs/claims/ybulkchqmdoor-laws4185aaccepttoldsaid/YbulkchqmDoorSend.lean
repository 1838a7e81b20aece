/-
  THE SEAT b4185aD: zzs4185asender.Send (53), newLedger (7).
-/
import Derived.Test.YbulkchqmDoorEnc
namespace Go.Proofs.YbulkchqmDoor
open Go.RowKit
set_option linter.unusedVariables false

theorem news_of {w wx : World} {k : IntKind} {b off : Nat} {xs : List Int} (hc : ∀ j, j < xs.length → wx.cell? ⟨b, off + j, none⟩ = some (.int k (xs.getD j 0))) :
    ∀ j u, (xs.map (Value.int k))[j]? = some u → wx.cell? ((⟨b, off, none⟩ : Addr).add j) = some u := by
  intro j u hj
  have hjl : j < xs.length := by
    rcases Nat.lt_or_ge j xs.length with h | h
    · exact h
    · rw [List.getElem?_eq_none (by simpa using h)] at hj; cases hj
  rw [ints_get _ _ _ hjl] at hj
  cases hj
  rw [addr_add]
  exact hc j hjl

/-- an owned row that is not empty reads as its numbers. -/
theorem own_holds {w : World} {B e : Nat} {k : IntKind} {v : Value} {n : Nat} {xs : List Int} (h : w.ownsRow B e 1 v n (xs.map (Value.int k))) (hn : 0 < n) : HoldsI w k v xs := by
  obtain ⟨g, cap, rfl, _, _, _, hl, hc, _⟩ := own_pos h hn
  exact ⟨_, _, by rw [hl], .inr ⟨g, 0, rfl, fun j hj => by rw [Nat.zero_add]; exact hc j (by omega)⟩⟩

theorem holds_kept {w w' : World} {k : IntKind} {v : Value} {xs : List Int} (h : HoldsI w k v xs) {row : Option Nat} (hg : w.grownBy w' row) (hne : ∀ b, v.ownBlock = some b → some b ≠ row) : HoldsI w' k v xs := by
  obtain ⟨ao, cap, rfl, h⟩ := h
  refine ⟨ao, cap, rfl, ?_⟩
  rcases h with h | ⟨b, off, rfl, hc⟩
  · exact .inl h
  · exact .inr ⟨b, off, rfl, fun j hj => hg.cell (hc j hj) (hne b rfl)⟩

/-- WHAT ONE Send LEAVES in the sender's three cells. -/
def Sent (w w' : World) (sb : Nat) (ps ts : List Int) : Prop :=
  ∃ g1 c1 g2 c2 : Nat, w'.cell? ⟨sb, 0, none⟩ = some (.int .i64 1) ∧ w'.cell? ⟨sb, 1, none⟩ = some (.slice (some ⟨g1, 0, none⟩) ps.length c1) ∧ w'.cell? ⟨sb, 2, none⟩ = some (.slice (some ⟨g2, 0, none⟩) ts.length c2) ∧
    (∀ j, j < ps.length → w'.cell? ⟨g1, j, none⟩ = some (.int .u8 (ps.getD j 0))) ∧ (∀ j, j < ts.length → w'.cell? ⟨g2, j, none⟩ = some (.int .i64 (ts.getD j 0))) ∧ w.grownBy w' (some sb)

theorem send_any (sb pb po cp tb tto ct : Nat) (ps ts : List Int) (w : World) (hp : 0 < ps.length) (hp2 : ps.length ≤ 100000) (ht : 0 < ts.length) (ht2 : ts.length ≤ 100000)
    (s0 : w.cell? ⟨sb, 0, none⟩ = some (.int .i64 0)) (s1 : w.cell? ⟨sb, 1, none⟩ = some (.slice none 0 0)) (s2 : w.cell? ⟨sb, 2, none⟩ = some (.slice none 0 0))
    (f0 : w.frozen? ⟨sb, 0, none⟩ = false) (f1 : w.frozen? ⟨sb, 1, none⟩ = false) (f2 : w.frozen? ⟨sb, 2, none⟩ = false) (hpb : pb ≠ sb) (htb : tb ≠ sb)
    (hcp : ∀ j, j < ps.length → w.cell? ⟨pb, po + j, none⟩ = some (.int .u8 (ps.getD j 0))) (hct : ∀ j, j < ts.length → w.cell? ⟨tb, tto + j, none⟩ = some (.int .i64 (ts.getD j 0))) :
    Calls Ybad.prog 53 #[.pointer (some ⟨sb, 0, none⟩), .slice (some ⟨pb, po, none⟩) ps.length cp, .slice (some ⟨tb, tto, none⟩) ts.length ct] w fun e w' =>
      e = .returned (.tuple #[]) ∧ Sent w w' sb ps ts := by
  obtain ⟨i5, hi5, hz50, hz51, hz52⟩ := info_parts info5
  obtain ⟨i3, hi3, hz30, hz31, hz32⟩ := info_parts info3
  have hsb : sb < w.heap.size := World.block_lt_of_cell? _ _ s0
  have hW1 : ∀ j, j < ps.length → (w.setCell ⟨sb, 0, none⟩ (.int .i64 1)).cell? ⟨pb, po + j, none⟩ = some (.int .u8 (ps.getD j 0)) := fun j hj => by
    rw [World.cell?_setCell_other _ _ _ _ (fun e => hpb (congrArg Addr.block e).symm)]; exact hcp j hj
  have HT : Hid (∀ j, j < ts.length → (w.setCell ⟨sb, 0, none⟩ (.int .i64 1)).cell? ⟨tb, tto + j, none⟩ = some (.int .i64 (ts.getD j 0))) := fun j hj => by
    rw [World.cell?_setCell_other _ _ _ _ (fun e => htb (congrArg Addr.block e).symm)]; exact hct j hj
  have hn1 := news_of (w := w) hW1
  have HN1 : Hid (∀ j u, (ps.map (Value.int .u8))[j]? = some u → (w.setCell ⟨sb, 0, none⟩ (.int .i64 1)).cell? ((⟨pb, po, none⟩ : Addr).add j) = some u) := hn1
  have HG0 : Hid (w.grownBy (w.setCell ⟨sb, 0, none⟩ (.int .i64 1)) (some sb)) := grownBy_setCell _ _ _ _ _ (World.grownBy.refl _ _)
  have x0 : (w.setCell ⟨sb, 0, none⟩ (.int .i64 1)).cell? ⟨sb, 0, none⟩ = some (.int .i64 1) := World.cell?_setCell_same _ _ _ s0
  have x1 : (w.setCell ⟨sb, 0, none⟩ (.int .i64 1)).cell? ⟨sb, 1, none⟩ = some (.slice none 0 0) := by rw [World.cell?_setCell_other _ _ _ _ (by simp)]; exact s1
  have x2 : (w.setCell ⟨sb, 0, none⟩ (.int .i64 1)).cell? ⟨sb, 2, none⟩ = some (.slice none 0 0) := by rw [World.cell?_setCell_other _ _ _ _ (by simp)]; exact s2
  have X : Hid (_ ∧ _ ∧ _) := ⟨x0, x1, x2⟩
  clear hcp hct hW1 hn1 x0 x1 x2
  go_enter Ybad.func53, Ybad.ntmps53
  go_wp2_with (at_builtin; refine wpList_append_own _ rfl (.const (.slice none 0 0)) (.tmp 14) 22 rfl w.heap.size 5 i5 (.int .u8 0) 1 1 Ybad.underlying22 hi5 hz50 hz51 hz52 rfl (by decide) (.slice none 0 0) 0 [] rfl (World.ownsRow_nil _ _ _ _) ⟨pb, po, none⟩ ps.length cp (ps.map (Value.int .u8)) rfl (by simp) HN1.out (ints_one _ _) (by unfold maxLen; omega) (by omega) (by rw [size_setCell]; exact Nat.le_refl _) ?_)
  intro v1 w1 hown1 hg1 _
  obtain ⟨g1, c1, rfl, hge1, hlt1, _, _, hcell1, _⟩ := own_pos hown1 hp
  have y0 := hg1.cell X.out.1 (by simp [Value.ownBlock])
  have y1 := hg1.cell X.out.2.1 (by simp [Value.ownBlock])
  have y2 := hg1.cell X.out.2.2 (by simp [Value.ownBlock])
  have z1 : w1.frozen? ⟨sb, 1, none⟩ = false := by rw [World.frozen?_of_block (hg1.block sb (by rw [size_setCell]; exact hsb) (by simp [Value.ownBlock])), World.frozen?_setCell]; exact f1
  have z2 : w1.frozen? ⟨sb, 2, none⟩ = false := by rw [World.frozen?_of_block (hg1.block sb (by rw [size_setCell]; exact hsb) (by simp [Value.ownBlock])), World.frozen?_setCell]; exact f2
  have hgs1 : g1 ≠ sb := by omega
  have HG1 : Hid (w.grownBy w1 (some sb)) := by
    have := HG0.out
    exact ⟨hg1.os.trans this.os, hg1.tape.trans this.tape, hg1.output.trans this.output, Nat.le_trans this.size hg1.size, fun k hk hne => (hg1.block k (by rw [size_setCell]; exact hk) (by simp [Value.ownBlock])).trans (this.block k hk hne)⟩
  have HT1 : Hid (∀ j, j < ts.length → w1.cell? ⟨tb, tto + j, none⟩ = some (.int .i64 (ts.getD j 0))) := fun j hj => hg1.cell (HT.out j hj) (by simp [Value.ownBlock])
  have hs1 : w.heap.size ≤ w1.heap.size := HG1.out.size
  have HW2 : Hid (∀ v, ∀ j, j < ts.length → (w1.setCell ⟨sb, 1, none⟩ v).cell? ⟨tb, tto + j, none⟩ = some (.int .i64 (ts.getD j 0))) := fun v j hj => by
    rw [World.cell?_setCell_other _ _ _ _ (fun e => htb (congrArg Addr.block e).symm)]; exact HT1.out j hj
  have HC1 : Hid (∀ j, j < ps.length → w1.cell? ⟨g1, j, none⟩ = some (.int .u8 (ps.getD j 0))) := hcell1
  clear hown1 hg1 hcell1 X HN1 HT HT1 s0 s1 s2 f0 f1 f2 HG0
  go_wp2_with (at_builtin; refine wpList_append_own _ rfl (.const (.slice none 0 0)) (.tmp 19) 23 rfl w1.heap.size 3 i3 (.int .i64 0) 1 8 Ybad.underlying23 hi3 hz30 hz31 hz32 rfl (by decide) (.slice none 0 0) 0 [] rfl (World.ownsRow_nil _ _ _ _) ⟨tb, tto, none⟩ ts.length ct (ts.map (Value.int .i64)) rfl (by simp) (news_of (w := w) (HW2.out _)) (ints_one _ _) (by unfold maxLen; omega) (by omega) (by rw [size_setCell]; exact Nat.le_refl _) ?_)
  intro v2 w2 hown2 hg2 _
  obtain ⟨g2, c2, rfl, hge2, hlt2, _, _, hcell2, _⟩ := own_pos hown2 ht
  have hsb1 : sb < w1.heap.size := by omega
  have t0 : w2.cell? ⟨sb, 0, none⟩ = some (.int .i64 1) := hg2.cell (by rw [World.cell?_setCell_other _ _ _ _ (by simp)]; exact y0) (by simp [Value.ownBlock])
  have t1 : w2.cell? ⟨sb, 1, none⟩ = some (.slice (some ⟨g1, 0, none⟩) ps.length c1) := hg2.cell (World.cell?_setCell_same _ _ _ y1) (by simp [Value.ownBlock])
  have t2 : w2.cell? ⟨sb, 2, none⟩ = some (.slice none 0 0) := hg2.cell (by rw [World.cell?_setCell_other _ _ _ _ (by simp)]; exact y2) (by simp [Value.ownBlock])
  have q2 : w2.frozen? ⟨sb, 2, none⟩ = false := by rw [World.frozen?_of_block (hg2.block sb (by rw [size_setCell]; exact hsb1) (by simp [Value.ownBlock])), World.frozen?_setCell]; exact z2
  have HP2 : Hid (∀ j, j < ps.length → w2.cell? ⟨g1, j, none⟩ = some (.int .u8 (ps.getD j 0))) := fun j hj => hg2.cell (by rw [World.cell?_setCell_other _ _ _ _ (fun e => hgs1 (congrArg Addr.block e).symm)]; exact HC1.out j hj) (by simp [Value.ownBlock])
  have HQ2 : Hid (∀ j, j < ts.length → w2.cell? ⟨g2, j, none⟩ = some (.int .i64 (ts.getD j 0))) := hcell2
  have HG2 : Hid (w.grownBy w2 (some sb)) := by
    have := grownBy_setCell w w1 sb 1 (.slice (some ⟨g1, 0, none⟩) ps.length c1) HG1.out
    exact ⟨hg2.os.trans this.os, hg2.tape.trans this.tape, hg2.output.trans this.output, Nat.le_trans this.size hg2.size, fun k hk hne => (hg2.block k (by rw [size_setCell]; omega) (by simp [Value.ownBlock])).trans (this.block k hk hne)⟩
  clear hown2 hg2 hcell2 HG1 HC1 HW2 y0 y1 y2 z1 z2
  go_wp2
  go_end0
  refine ⟨rfl, g1, c1, g2, c2, ?_, ?_, World.cell?_setCell_same _ _ _ t2, fun j hj => ?_, fun j hj => ?_, grownBy_setCell _ _ _ _ _ HG2.out⟩
  · rw [World.cell?_setCell_other _ _ _ _ (by simp)]; exact t0
  · rw [World.cell?_setCell_other _ _ _ _ (by simp)]; exact t1
  · rw [World.cell?_setCell_other _ _ _ _ (fun e => hgs1 (congrArg Addr.block e).symm)]; exact HP2.out j hj
  · rw [World.cell?_setCell_other _ _ _ _ (fun e => by have := congrArg Addr.block e; simp at this; omega)]; exact HQ2.out j hj

end Go.Proofs.YbulkchqmDoor
