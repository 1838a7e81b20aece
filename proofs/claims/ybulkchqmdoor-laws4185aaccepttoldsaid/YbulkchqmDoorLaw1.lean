/-
  THE SEAT b4185aD: small laws for the law's own walk: 'append(nil, src...)' of whatever source; the long arguments.
-/
import Derived.Test.YbulkchqmDoorAcc2
namespace Go.Proofs.YbulkchqmDoor
open Go.RowKit Go.Maps
set_option linter.unusedVariables false

/-- 'append([]T(nil), src...)', src whatever slice reads as the integers xs: a row of the call's own, or nil. -/
theorem wpList_copyrow {w : World} {ops : Array Oper} {rest : List Oper} {o : Oper} {a : Act} {Q : Exit → Act → World → Prop} (hgd : o.guard = none) (x : Operand) (t : TypeId)
    (ho : o.op = .call { callee := .builtin .append, args := #[.const (.slice none 0 0), x], argTypes := #[t, t] })
    (e : TypeId) (k : IntKind) (i : TypeInfo) (bytes : Nat) (ht : Ybad.prog.underlying t = some (.slice e)) (hi : Ybad.prog.info? e = some i) (hz : i.zero = some (.int k 0)) (hsize : i.size = 1) (hby : i.bytes = bytes)
    (v : Value) (hx : a.eval x = v) (xs : List Int) (hv : HoldsI w k v xs) (hnil : v = .slice none 0 0 ∨ ∃ ad m c, v = .slice (some ad) m c) (h63 : xs.length ≤ maxLen) (hbytes : xs.length * bytes ≤ 140737488355328)
    (hK : ∀ ao cap w', RowI w' k (.slice ao xs.length cap) xs → w.grownBy w' none → wpList Ybad.prog ops Q rest (a.put o.dst (.slice ao xs.length cap)) w') : wpList Ybad.prog ops Q (o :: rest) a w := by
  obtain ⟨ao, cap, rfl, h⟩ := hv
  rcases hnil with hnil | ⟨ad, m, c, hv⟩
  · simp only [Value.slice.injEq] at hnil
    obtain ⟨rfl, hl, rfl⟩ := hnil
    obtain rfl : xs = [] := List.eq_nil_of_length_eq_zero hl
    refine wpList_append_own_none hgd (.const (.slice none 0 0)) x t ho w.heap.size e i 1 ht hi (.slice none 0 0) 0 [] rfl (World.ownsRow_nil _ _ _ _) hx ?_
    exact hK none 0 w (.inl ⟨rfl, rfl⟩) (World.grownBy.refl _ _)
  · simp only [Value.slice.injEq] at hv
    obtain ⟨rfl, rfl, rfl⟩ := hv
    refine wpList_append_own w hgd (.const (.slice none 0 0)) x t ho w.heap.size e i (.int k 0) 1 bytes ht hi hz hsize hby rfl (by decide) (.slice none 0 0) 0 [] rfl (World.ownsRow_nil _ _ _ _) ad xs.length cap (xs.map (Value.int k)) hx (by simp) ?_ (ints_one _ _) (by omega) (by simpa using hbytes) (Nat.le_refl _) ?_
    · rcases h with rfl | ⟨b, off, hao, hc⟩
      · intro j u hj; simp at hj
      · cases hao
        exact news_of (w := w) hc
    · intro v' w' hown hg hiff
      rw [Nat.zero_add, List.nil_append] at hown
      by_cases h0 : xs = []
      · subst h0
        have : v' = .slice none 0 0 := hiff.2 ⟨rfl, rfl⟩
        rw [this]
        exact hK none 0 w' (.inl ⟨rfl, rfl⟩) hg
      · have hpos : 0 < xs.length := List.length_pos_iff.2 h0
        obtain ⟨g, cp, rfl, _, _, _, _, hc, _⟩ := own_pos hown hpos
        exact hK (some ⟨g, 0, none⟩) cp w' (.inr ⟨hpos, g, 0, cp, rfl, fun j hj => by rw [Nat.zero_add]; exact hc j hj⟩) hg

set_option maxRecDepth 100000 in
theorem law_long (now src id : Int) (mo no vo : Option Addr) (lm cm ln cn lv cv : Nat) (n : Int) (w : World) (h : 4096 < lm ∨ 4096 < ln ∨ 4096 < lv) (h1 : lm ≤ maxLen) (h2 : ln ≤ maxLen) (h3 : lv ≤ maxLen) :
    Calls Ybad.prog 3 #[.int .i64 now, .int .i64 src, .slice mo lm cm, .slice no ln cn, .slice vo lv cv, .int .i64 id, .int .u16 n] w fun e w' => e = .returned (.bool true) ∧ w' = w := by
  unfold maxLen at h1 h2 h3
  by_cases a1 : 4096 < lm
  · have b1 : (4096 : Int) < (lm : Int) := by omega
    go_enter Ybad.func3, Ybad.ntmps3
    go_wp2
    go_ret
    exact ⟨rfl, rfl⟩
  have c1 : ¬ (4096 : Int) < (lm : Int) := by omega
  by_cases a2 : 4096 < ln
  · have b2 : (4096 : Int) < (ln : Int) := by omega
    go_enter Ybad.func3, Ybad.ntmps3
    go_wp2
    go_ret
    exact ⟨rfl, rfl⟩
  have c2 : ¬ (4096 : Int) < (ln : Int) := by omega
  have b3 : (4096 : Int) < (lv : Int) := by omega
  go_enter Ybad.func3, Ybad.ntmps3
  go_wp2
  go_ret
  exact ⟨rfl, rfl⟩

end Go.Proofs.YbulkchqmDoor
