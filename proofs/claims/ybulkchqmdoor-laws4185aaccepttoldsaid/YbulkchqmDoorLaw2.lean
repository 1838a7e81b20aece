/-
  THE SEAT b4185aD: the law's own walk (3).
-/
import Derived.Test.YbulkchqmDoorKept
import Derived.Deep.DeepCutAuto
namespace Go.Proofs.YbulkchqmDoor
open Go.RowKit Go.Maps
set_option linter.unusedVariables false

/-- the row b holds m numbers of kind u64 that may be written. -/
def U64s (w : World) (b m : Nat) : Prop := ∀ j, j < m → (∃ x, w.cell? ⟨b, j, none⟩ = some (.int .u64 x)) ∧ w.frozen? ⟨b, j, none⟩ = false

theorem U64s.made {w : World} {B b m : Nat} (h : w.ownsRow B 51 1 (.slice (some ⟨b, 0, none⟩) m m) m (List.replicate m (.int .u64 0))) : U64s w b m := fun j hj =>
  ⟨⟨0, by rw [h.cellAt j (by omega)]; simp [hj]⟩, h.frozenAt j⟩

theorem U64s.set {w : World} {b m i : Nat} {y : Int} (h : U64s w b m) : U64s (w.setCell ⟨b, i, none⟩ (.int .u64 y)).drew b m := fun j hj => by
  obtain ⟨⟨x, hx⟩, hf⟩ := h j hj
  refine ⟨?_, (World.frozen?_setCell w ⟨b, i, none⟩ ⟨b, j, none⟩ _).trans hf⟩
  by_cases e : i = j
  · subst e
    exact ⟨y, World.cell?_setCell_same w _ _ hx⟩
  · exact ⟨x, (World.cell?_setCell_other w _ _ _ (fun e' => e (by simpa using congrArg Addr.off e'))).trans hx⟩

theorem own_zero {w : World} {B e : Nat} {v : Value} {xs : List Value} (h : w.ownsRow B e 1 v 0 xs) : ∃ ao c, v = .slice ao 0 c := by
  rcases h.2 with ⟨rfl, _⟩ | ⟨g, c, cur, rfl, _⟩
  · exact ⟨_, _, rfl⟩
  · exact ⟨_, _, rfl⟩

theorem holds_later {w w' : World} {k : IntKind} {v : Value} {xs : List Int} (hb : Below w.heap.size w w') (h : HoldsI w k v xs) : HoldsI w' k v xs := by
  obtain ⟨ao, cap, rfl, h⟩ := h
  refine ⟨ao, cap, rfl, ?_⟩
  rcases h with h | ⟨b, off, rfl, hc⟩
  · exact .inl h
  · exact .inr ⟨b, off, rfl, fun j hj => cell_later hb (hc j hj)⟩

theorem holds_nilness {w : World} {k : IntKind} {ao : Option Addr} {l c : Nat} (h : ao = none → l = 0 ∧ c = 0) : (Value.slice ao l c) = .slice none 0 0 ∨ ∃ ad m c', (Value.slice ao l c) = .slice (some ad) m c' := by
  cases ao with
  | none => obtain ⟨rfl, rfl⟩ := h rfl; exact .inl rfl
  | some a => exact .inr ⟨a, l, c, rfl⟩

/-- 'append(row, src...)', the row the call's own, src whatever slice reads as the integers xs. -/
theorem wpList_addrow {w : World} {ops : Array Oper} {rest : List Oper} {o : Oper} {a : Act} {Q : Exit → Act → World → Prop} (hgd : o.guard = none) (s x : Operand) (t : TypeId)
    (ho : o.op = .call { callee := .builtin .append, args := #[s, x], argTypes := #[t, t] })
    (B : Nat) (e : TypeId) (k : IntKind) (i : TypeInfo) (bytes : Nat) (ht : Ybad.prog.underlying t = some (.slice e)) (hi : Ybad.prog.info? e = some i) (hz : i.zero = some (.int k 0)) (hsize : i.size = 1) (hby : i.bytes = bytes)
    (u : Value) (n : Nat) (ys : List Value) (hs : a.eval s = u) (hown : w.ownsRow B e 1 u n ys)
    (v : Value) (hx : a.eval x = v) (xs : List Int) (hv : HoldsI w k v xs) (hnil : v = .slice none 0 0 ∨ ∃ ad m c, v = .slice (some ad) m c) (h63 : n + xs.length ≤ maxLen) (hbytes : (n + xs.length) * bytes ≤ 140737488355328) (hB : B ≤ w.heap.size)
    (hK : ∀ u' w', w'.ownsRow B e 1 u' (n + xs.length) (ys ++ xs.map (Value.int k)) → w.grownBy w' u.ownBlock → wpList Ybad.prog ops Q rest (a.put o.dst u') w') : wpList Ybad.prog ops Q (o :: rest) a w := by
  obtain ⟨ao, cap, rfl, h⟩ := hv
  rcases hnil with hnil | ⟨ad, m, c, hv⟩
  · simp only [Value.slice.injEq] at hnil
    obtain ⟨rfl, hl, rfl⟩ := hnil
    obtain rfl : xs = [] := List.eq_nil_of_length_eq_zero hl
    refine wpList_append_own_none hgd s x t ho B e i 1 ht hi u n ys hs hown hx ?_
    exact hK u w (by simpa using hown) (World.grownBy.refl _ _)
  · simp only [Value.slice.injEq] at hv
    obtain ⟨rfl, rfl, rfl⟩ := hv
    refine wpList_append_own w hgd s x t ho B e i (.int k 0) 1 bytes ht hi hz hsize hby rfl (by decide) u n ys hs hown ad xs.length cap (xs.map (Value.int k)) hx (by simp) ?_ (ints_one _ _) h63 hbytes hB ?_
    · rcases h with rfl | ⟨b, off, hao, hc⟩
      · intro j u hj; simp at hj
      · cases hao
        exact news_of (w := w) hc
    · intro v' w' h1 h2 _
      exact hK v' w' h1 h2

set_option maxRecDepth 100000 in
set_option maxHeartbeats 4000000 in
theorem law_main (now src id : Int) (mo no vo : Option Addr) (cm cn cv n : Nat) (msg xs vis : List Int) (w : World) (wsrc : (Lit.int .i64 src).wf = true) (hn : n ≤ 65535)
    (hm : HoldsI w .u8 (.slice mo msg.length cm) msg) (hx : HoldsI w .i64 (.slice no xs.length cn) xs) (hv : HoldsI w .u16 (.slice vo vis.length cv) vis)
    (hmn : mo = none → msg.length = 0 ∧ cm = 0) (hxn : no = none → xs.length = 0 ∧ cn = 0)
    (hml : msg.length ≤ 4096) (hxl : xs.length ≤ 4096) (hvl : vis.length ≤ 4096) (hvr : ∀ j, 0 ≤ vis.getD j 0 ∧ vis.getD j 0 ≤ 65535) :
    Calls Ybad.prog 3 #[.int .i64 now, .int .i64 src, .slice mo msg.length cm, .slice no xs.length cn, .slice vo vis.length cv, .int .i64 id, .int .u16 n] w fun e w' => e = .returned (.bool true) ∧ Below w.heap.size w w' := by
  have c1 : ¬ (4096 : Int) < (msg.length : Int) := by omega
  have c2 : ¬ (4096 : Int) < (xs.length : Int) := by omega
  have c3 : ¬ (4096 : Int) < (vis.length : Int) := by omega
  obtain ⟨i5, hi5, hz50, hz51, hz52⟩ := info_parts info5
  obtain ⟨i3, hi3, hz30, hz31, hz32⟩ := info_parts info3
  have HM : Hid (HoldsI w .u8 (.slice mo msg.length cm) msg) := hm
  have HX : Hid (HoldsI w .i64 (.slice no xs.length cn) xs) := hx
  have HV : Hid (HoldsI w .u16 (.slice vo vis.length cv) vis) := hv
  have HVR : Hid (∀ j, 0 ≤ vis.getD j 0 ∧ vis.getD j 0 ≤ 65535) := hvr
  have N1 := holds_nilness (w := w) (k := .u8) hmn
  have N2 := holds_nilness (w := w) (k := .i64) hxn
  have HN1 : Hid _ := N1
  have HN2 : Hid _ := N2
  clear hm hx hv hvr N1 N2 hmn hxn
  go_enter Ybad.func3, Ybad.ntmps3
  go_wp2_with (at_builtin; refine wpList_copyrow rfl (.tmp 43) 22 rfl 5 .u8 i5 1 Ybad.underlying22 hi5 hz50 hz51 hz52 _ rfl msg HM.out HN1.out (by unfold maxLen; omega) (by omega) ?_)
  intro ao1 cap1 w1 hr1 hg1
  have hb1 : Below w.heap.size w w1 := (Below.refl _ _).grown hg1 (Nat.le_refl _) (by intro k hk; cases hk)
  have HX1 : Hid (HoldsI w1 .i64 (.slice no xs.length cn) xs) := holds_kept HX.out hg1 (by intro b hb; simp)
  have HR1 : Hid (RowI w1 .u8 (.slice ao1 msg.length cap1) msg) := hr1
  clear hr1 hg1
  go_wp2_with (at_builtin; refine wpList_copyrow rfl (.tmp 45) 23 rfl 3 .i64 i3 8 Ybad.underlying23 hi3 hz30 hz31 hz32 _ rfl xs HX1.out HN2.out (by unfold maxLen; omega) (by omega) ?_)
  intro ao2 cap2 w2 hr2 hg2
  have hb2 : Below w1.heap.size w1 w2 := (Below.refl _ _).grown hg2 (Nat.le_refl _) (by intro k hk; cases hk)
  have HB2 : Hid (Below w.heap.size w w2) := hb1.trans (hb2.mono hb1.size)
  have HR1' : Hid (RowI w2 .u8 (.slice ao1 msg.length cap1) msg) := HR1.out.same (fun b o q h => cell_later hb2 h)
  have HR2 : Hid (RowI w2 .i64 (.slice ao2 xs.length cap2) xs) := hr2
  clear hr2 hg2 hb1 hb2 HX1 HR1
  go_wp2_with (go_at_call 5; refine (newSet n _ hn).mono ?_)
  rintro e w3 ⟨rfl, hown3, hg3⟩
  have hb3 : Below w2.heap.size w2 w3 := (Below.refl _ _).grown hg3 (Nat.le_refl _) (by intro k hk; cases hk)
  have hset3 : U64s w3 w2.heap.size ((n + 63) / 64) := U64s.made hown3
  have HB3 : Hid (Below w2.heap.size w2 w3) := hb3
  have HS3 : Hid (U64s w3 w2.heap.size ((n + 63) / 64)) := hset3
  clear hown3 hg3 hb3 hset3
  go_upto_if 52 with fail
  go_cut [] (fun wx => Hid (Below w2.heap.size w2 wx))
  case first =>
    by_cases hn0 : 0 < n
    · have hn1 : (0 : Int) < (n : Int) := by omega
      rw [show decide (0 < n) = true by simpa using hn0]
      go_wp2
      go_loopw [55] (fun i wr => ∃ k : Nat, k ≤ vis.length ∧ i = .int .i64 k ∧ Hid (U64s wr w2.heap.size ((n + 63) / 64) ∧ Below w2.heap.size w2 wr)) (fun i _ => vis.length - (intOf i).toNat)
      case atStart => exact ⟨0, Nat.zero_le _, rfl, HS3.out, HB3.out⟩
      case round =>
        obtain ⟨k, hk, rfl, HR⟩ := hrel
        by_cases hlt : k < vis.length
        · obtain ⟨ao, cap, hvv, hcase⟩ := HV.out
          cases hvv
          have hcase' : ∃ b off, vo = some ⟨b, off, none⟩ ∧ ∀ j, j < vis.length → w.cell? ⟨b, off + j, none⟩ = some (.int .u16 (vis.getD j 0)) := by
            rcases hcase with h | h
            · rw [h] at hlt; simp at hlt
            · exact h
          obtain ⟨b, off, rfl, hcv⟩ := hcase'
          clear hcase
          obtain ⟨x, hx⟩ : ∃ x, x = vis.getD k 0 := ⟨_, rfl⟩
          have hcx : wr.cell? ⟨b, off + k, none⟩ = some (.int .u16 x) := by rw [hx]; exact cell_later (HB2.out.trans (HR.out.2.mono HB2.out.size)) (hcv k hlt)
          have hxr : 0 ≤ x ∧ x ≤ 65535 := by rw [hx]; exact HVR.out k
          obtain ⟨hx0, hx1⟩ := hxr
          obtain ⟨d, hd⟩ : ∃ d : Nat, x % (n : Int) = d := ⟨(x % (n : Int)).toNat, by have := Int.emod_nonneg x (show (n : Int) ≠ 0 by omega); omega⟩
          have hdn : d < n := by have := Int.emod_lt_of_pos x (show (0 : Int) < n by omega); omega
          obtain ⟨⟨y, hy⟩, hf⟩ := HR.out.1 (d / 64) (by omega)
          clear hcv hx
          go_wp2_with (go_at_call 6; refine (add_any _ _ d y _ (by omega) (by omega) (by omega) hy hf).mono ?_; rintro e w4 ⟨rfl, hz⟩)
          go_roundw
          case rel =>
            obtain ⟨z, rfl⟩ := hz
            exact ⟨k + 1, by omega, by go_num, HR.out.1.set, (HR.out.2.setCell (p := ⟨w2.heap.size, d / 64, none⟩) (Nat.le_refl _) _).drew⟩
          case measure => simp [intOf]; omega
        · go_wp2
          go_meet
          case rel => exact HR.out.2
    · obtain rfl : n = 0 := by omega
      go_wp2
      go_meet
      case rel => exact HB3
  case rest =>
    have HRm : Hid (RowI wc .u8 (.slice ao1 msg.length cap1) msg) := HR1'.out.same (fun b o q h => cell_later hcut.out h)
    have HRx : Hid (RowI wc .i64 (.slice ao2 xs.length cap2) xs) := HR2.out.same (fun b o q h => cell_later hcut.out h)
    have HBc : Hid (Below w.heap.size w wc) := HB2.out.trans (hcut.out.mono HB2.out.size)
    obtain ⟨q2, hq2⟩ : ∃ q2, q2 = w2.heap.size := ⟨_, rfl⟩
    rw [← hq2]
    clear hq2 HR1' HR2 HB2 HB3 HS3 HV HVR hcut c1 c2 c3
    go_wp2_with (go_at_call 7; refine (ledger_any _ _ _ _ _ _).mono ?_)
    rintro e w5 ⟨rfl, hb5, hs5, hmap5⟩
    by_cases hK : keepTo xs src xs.length = []
    · have HKn : Hid (keepTo xs src xs.length = []) := hK
      clear hK
      go_wp2_with (go_at_call 8; refine (acc_none wc w5 src now id n ao2 cap2 ao1 _ cap1 _ _ msg xs wsrc hn hxl hml hb5 hs5 hmap5.out HRm.out HRx.out HKn.out).mono ?_)
      rintro e w8 ⟨rfl, hA, hS⟩
      obtain ⟨g, c, r9, rg0, rg1, rg2, r8, r10, r11, r12, r13, hlook, hlen, hb8, hs8⟩ := hA.out
      have HB8 : Hid (Below wc.heap.size wc w8) := hb8
      have HQm : Hid (HoldsI w8 .u8 (.slice ao1 msg.length cap1) msg) := (HRm.out.same (fun b o q h => cell_later hb8 h)).holds
      have HQx : Hid (HoldsI w8 .i64 (.slice ao2 xs.length cap2) xs) := (HRx.out.same (fun b o q h => cell_later hb8 h)).holds
      have hbw : Below w.heap.size w w8 := HBc.out.trans (hb8.mono HBc.out.size)
      have HBw : Hid (Below w.heap.size w w8) := hbw
      have HAm : Hid (HoldsI w8 .u8 (.slice mo msg.length cm) msg) := holds_later hbw HM.out
      have HAx : Hid (HoldsI w8 .i64 (.slice no xs.length cn) xs) := holds_later hbw HX.out
      have hconv : (convert 22 9 (.slice mo msg.length cm)).run Ybad.prog (w8.alloc (.cells #[.int .i64 src, .string (strOfNums msg), .int .i64 now] 45)) = .ok (.string (strOfNums msg)) (w8.alloc (.cells #[.int .i64 src, .string (strOfNums msg), .int .i64 now] 45)) :=
        conv_str _ _ _ (holds_kept (row := none) HAm.out (World.grownBy_alloc _ _ none) (by intro b hb; simp))
      have p10 : (w8.alloc (.cells #[.int .i64 src, .string (strOfNums msg), .int .i64 now] 45)).cell? ⟨wc.heap.size + 3, 10, none⟩ = some (.int .i64 0) := Lib.cell?_alloc_some _ r10
      have p11 : (w8.alloc (.cells #[.int .i64 src, .string (strOfNums msg), .int .i64 now] 45)).cell? ⟨wc.heap.size + 3, 11, none⟩ = some (.int .i64 0) := Lib.cell?_alloc_some _ r11
      have p12 : (w8.alloc (.cells #[.int .i64 src, .string (strOfNums msg), .int .i64 now] 45)).cell? ⟨wc.heap.size + 3, 12, none⟩ = some (.int .i64 0) := Lib.cell?_alloc_some _ r12
      have p13 : (w8.alloc (.cells #[.int .i64 src, .string (strOfNums msg), .int .i64 now] 45)).cell? ⟨wc.heap.size + 3, 13, none⟩ = some (.int .i64 0) := Lib.cell?_alloc_some _ r13
      clear hA hb8 hbw hb5 hmap5 HRm HRx HBc HM HX
      have h9 : Below w8.heap.size w8 (w8.alloc (.cells #[.int .i64 src, .string (strOfNums msg), .int .i64 now] 45)) := (Below.refl _ _).alloc (Nat.le_refl _) _
      have H9 : Hid (Below w8.heap.size w8 (w8.alloc (.cells #[.int .i64 src, .string (strOfNums msg), .int .i64 now] 45))) := h9
      clear h9
      go_wp2_with (go_at_call 9; refine (eqI _ _ xs _ (by unfold maxLen; omega) (holds_later H9.out HQx.out) (holds_later H9.out HAx.out)).mono ?_)
      rintro e w9 ⟨rfl, m1, hw9⟩
      have HB9 : Hid (Below w8.heap.size w8 w9) := by rw [hw9]; exact below_drewN H9.out m1
      clear hw9 H9 HQx p10 p11 p12 p13 r10 r11 r12 r13 r8 r9 rg0 rg1 rg2 hlook hlen hconv
      go_wp2_with (go_at_call 10; refine (eqB _ _ msg _ (by unfold maxLen; omega) (holds_later HB9.out HQm.out) (holds_later HB9.out HAm.out)).mono ?_)
      rintro e wq ⟨rfl, m2, hwq⟩
      have HBq : Hid (Below w8.heap.size w8 wq) := by rw [hwq]; exact below_drewN HB9.out m2
      have HXq : Hid (HoldsI wq .i64 (.slice no xs.length cn) xs) := holds_later HBq.out HAx.out
      have HMq : Hid (HoldsI wq .u8 (.slice mo msg.length cm) msg) := holds_later HBq.out HAm.out
      have HBwq : Hid (Below w.heap.size w wq) := HBw.out.trans (HBq.out.mono HBw.out.size)
      have HSq : Hid (wq.cell? ⟨wc.heap.size + 3 + 1, 0, none⟩ = some (.int .i64 0)) := cell_later HBq.out hS.out
      clear hwq HB9 HQm HAm HAx hS HB8 HBw HBq hs8
      go_wp2
      go_loopw [24, 147] (fun v i wr => ∃ k : Nat, k ≤ xs.length ∧ i = .int .i64 k ∧ Hid (wr.ownsRow wq.heap.size 3 1 v (keepTo xs src k).length ((keepTo xs src k).map (Value.int .i64)) ∧ Below wq.heap.size wq wr)) (fun _ i _ => xs.length - (intOf i).toNat)
      case atStart => exact ⟨0, Nat.zero_le _, rfl, by simpa [keepTo] using World.ownsRow_nil wq wq.heap.size 3 1, Below.refl _ _⟩
      case round =>
        obtain ⟨k, hk, rfl, HR⟩ := hrel
        by_cases hlt : k < xs.length
        · obtain ⟨ao, cap, hvv, hcase⟩ := HXq.out
          cases hvv
          have hcase' : ∃ b off, no = some ⟨b, off, none⟩ ∧ ∀ j, j < xs.length → wq.cell? ⟨b, off + j, none⟩ = some (.int .i64 (xs.getD j 0)) := by
            rcases hcase with h | h
            · rw [h] at hlt; simp at hlt
            · exact h
          obtain ⟨b, off, rfl, hcx⟩ := hcase'
          obtain ⟨u, hu⟩ : ∃ u, u = xs.getD k 0 := ⟨_, rfl⟩
          have h3 : wr.cell? ⟨b, off + k, none⟩ = some (.int .i64 u) := by rw [hu]; exact cell_later HR.out.2 (hcx k hlt)
          have HU : Hid (u = xs.getD k 0) := hu
          have hkl := keepTo_le xs src k
          have hws : wq.heap.size ≤ wr.heap.size := HR.out.2.size
          clear hcase hcx hu
          by_cases hus : u = src
          · have HX' : Hid (u = src) := hus
            have hb : (u != src) = false := by simpa using hus
            clear hus
            go_wp2
            go_roundw
            case rel => exact ⟨k + 1, by omega, by go_num, by rw [keepTo_hit xs src k hlt (HU.out ▸ HX'.out)]; exact HR.out.1, HR.out.2⟩
            case measure => simp [intOf]; omega
          · have HX' : Hid (¬ u = src) := hus
            have hb : (u != src) = true := by simpa using hus
            clear hus
            go_wp2_with (at_builtin; refine wpList_append_own _ rfl _ _ 23 rfl wq.heap.size 3 i3 (.int .i64 0) 1 8 Ybad.underlying23 hi3 hz30 hz31 hz32 rfl (by decide) _ _ _ rfl (HR.out.1.alloc _) ⟨wr.heap.size, 0, none⟩ 1 1 [.int .i64 u] rfl rfl (cell_one_new _ _ _) (ints_oneCell .i64 [u]) (by unfold maxLen; omega) (by omega) (by simp; omega) ?_)
            intro v' w1 hown1 hg1 _
            have HR1 : Hid (w1.ownsRow wq.heap.size 3 1 v' (keepTo xs src (k + 1)).length ((keepTo xs src (k + 1)).map (Value.int .i64)) ∧ Below wq.heap.size wq w1) := by
              refine ⟨?_, (HR.out.2.alloc hws _).grown hg1 (by simp; omega) (own_ge HR.out.1)⟩
              rw [keepTo_miss xs src k hlt (HU.out ▸ HX'.out), ← HU.out]
              simpa using hown1
            clear hown1 hg1
            go_wp2
            go_roundw
            case rel => exact ⟨k + 1, by omega, by go_num, HR1.out⟩
            case measure => simp [intOf]; omega
        · obtain rfl : k = xs.length := by omega
          have hr := HR.out.1
          rw [HKn.out] at hr
          have e0 := cell_later HR.out.2 HSq.out
          have HBr : Hid (Below w.heap.size w wr) := HBwq.out.trans (HR.out.2.mono HBwq.out.size)
          obtain ⟨ao9, c9, rfl⟩ := own_zero hr
          clear hr HR HSq HBwq HXq HMq
          go_wp2
          go_ret
          exact ⟨rfl, HBr.out⟩
    · have HKn : Hid (¬ keepTo xs src xs.length = []) := hK
      clear hK
      go_wp2_with (go_at_call 8; refine (acc_some wc w5 src now id n ao2 cap2 ao1 _ cap1 _ _ msg xs wsrc hn hxl hml hb5 hs5 hmap5.out HRm.out HRx.out HKn.out).mono ?_)
      rintro e w8 ⟨rfl, hA, hS⟩
      obtain ⟨g, c, r9, rg0, rg1, rg2, r8, r10, r11, r12, r13, hlook, hlen, hb8, hs8⟩ := hA.out
      have HB8 : Hid (Below wc.heap.size wc w8) := hb8
      have HQm : Hid (HoldsI w8 .u8 (.slice ao1 msg.length cap1) msg) := (HRm.out.same (fun b o q h => cell_later hb8 h)).holds
      have HQx : Hid (HoldsI w8 .i64 (.slice ao2 xs.length cap2) xs) := (HRx.out.same (fun b o q h => cell_later hb8 h)).holds
      have hbw : Below w.heap.size w w8 := HBc.out.trans (hb8.mono HBc.out.size)
      have HBw : Hid (Below w.heap.size w w8) := hbw
      have HAm : Hid (HoldsI w8 .u8 (.slice mo msg.length cm) msg) := holds_later hbw HM.out
      have HAx : Hid (HoldsI w8 .i64 (.slice no xs.length cn) xs) := holds_later hbw HX.out
      have hconv : (convert 22 9 (.slice mo msg.length cm)).run Ybad.prog (w8.alloc (.cells #[.int .i64 src, .string (strOfNums msg), .int .i64 now] 45)) = .ok (.string (strOfNums msg)) (w8.alloc (.cells #[.int .i64 src, .string (strOfNums msg), .int .i64 now] 45)) :=
        conv_str _ _ _ (holds_kept (row := none) HAm.out (World.grownBy_alloc _ _ none) (by intro b hb; simp))
      have p10 : (w8.alloc (.cells #[.int .i64 src, .string (strOfNums msg), .int .i64 now] 45)).cell? ⟨wc.heap.size + 3, 10, none⟩ = some (.int .i64 0) := Lib.cell?_alloc_some _ r10
      have p11 : (w8.alloc (.cells #[.int .i64 src, .string (strOfNums msg), .int .i64 now] 45)).cell? ⟨wc.heap.size + 3, 11, none⟩ = some (.int .i64 0) := Lib.cell?_alloc_some _ r11
      have p12 : (w8.alloc (.cells #[.int .i64 src, .string (strOfNums msg), .int .i64 now] 45)).cell? ⟨wc.heap.size + 3, 12, none⟩ = some (.int .i64 0) := Lib.cell?_alloc_some _ r12
      have p13 : (w8.alloc (.cells #[.int .i64 src, .string (strOfNums msg), .int .i64 now] 45)).cell? ⟨wc.heap.size + 3, 13, none⟩ = some (.int .i64 0) := Lib.cell?_alloc_some _ r13
      clear hA hb8 hbw hb5 hmap5 HRm HRx HBc HM HX
      have h9 : Below w8.heap.size w8 (w8.alloc (.cells #[.int .i64 src, .string (strOfNums msg), .int .i64 now] 45)) := (Below.refl _ _).alloc (Nat.le_refl _) _
      have H9 : Hid (Below w8.heap.size w8 (w8.alloc (.cells #[.int .i64 src, .string (strOfNums msg), .int .i64 now] 45))) := h9
      clear h9
      go_wp2_with (go_at_call 9; refine (eqI _ _ xs _ (by unfold maxLen; omega) (holds_later H9.out HQx.out) (holds_later H9.out HAx.out)).mono ?_)
      rintro e w9 ⟨rfl, m1, hw9⟩
      have HB9 : Hid (Below w8.heap.size w8 w9) := by rw [hw9]; exact below_drewN H9.out m1
      clear hw9 H9 HQx p10 p11 p12 p13 r10 r11 r12 r13 r8 r9 rg0 rg1 rg2 hlook hlen hconv
      go_wp2_with (go_at_call 10; refine (eqB _ _ msg _ (by unfold maxLen; omega) (holds_later HB9.out HQm.out) (holds_later HB9.out HAm.out)).mono ?_)
      rintro e wq ⟨rfl, m2, hwq⟩
      have HBq : Hid (Below w8.heap.size w8 wq) := by rw [hwq]; exact below_drewN HB9.out m2
      have HXq : Hid (HoldsI wq .i64 (.slice no xs.length cn) xs) := holds_later HBq.out HAx.out
      have HMq : Hid (HoldsI wq .u8 (.slice mo msg.length cm) msg) := holds_later HBq.out HAm.out
      have HBwq : Hid (Below w.heap.size w wq) := HBw.out.trans (HBq.out.mono HBw.out.size)
      have HSq : Hid (SentIn wq (wc.heap.size + 3 + 1) (wire src msg) (keepTo xs src xs.length)) := by
        obtain ⟨g1, c1, g2, c2, q0, q1, q2', q3, q4⟩ := hS.out
        exact ⟨g1, c1, g2, c2, cell_later HBq.out q0, cell_later HBq.out q1, cell_later HBq.out q2', fun j hj => cell_later HBq.out (q3 j hj), fun j hj => cell_later HBq.out (q4 j hj)⟩
      clear hwq HB9 HQm HAm HAx hS HB8 HBw HBq hs8
      go_wp2
      go_loopw [24, 147] (fun v i wr => ∃ k : Nat, k ≤ xs.length ∧ i = .int .i64 k ∧ Hid (wr.ownsRow wq.heap.size 3 1 v (keepTo xs src k).length ((keepTo xs src k).map (Value.int .i64)) ∧ Below wq.heap.size wq wr)) (fun _ i _ => xs.length - (intOf i).toNat)
      case atStart => exact ⟨0, Nat.zero_le _, rfl, by simpa [keepTo] using World.ownsRow_nil wq wq.heap.size 3 1, Below.refl _ _⟩
      case round =>
        obtain ⟨k, hk, rfl, HR⟩ := hrel
        by_cases hlt : k < xs.length
        · obtain ⟨ao, cap, hvv, hcase⟩ := HXq.out
          cases hvv
          have hcase' : ∃ b off, no = some ⟨b, off, none⟩ ∧ ∀ j, j < xs.length → wq.cell? ⟨b, off + j, none⟩ = some (.int .i64 (xs.getD j 0)) := by
            rcases hcase with h | h
            · rw [h] at hlt; simp at hlt
            · exact h
          obtain ⟨b, off, rfl, hcx⟩ := hcase'
          obtain ⟨u, hu⟩ : ∃ u, u = xs.getD k 0 := ⟨_, rfl⟩
          have h3 : wr.cell? ⟨b, off + k, none⟩ = some (.int .i64 u) := by rw [hu]; exact cell_later HR.out.2 (hcx k hlt)
          have HU : Hid (u = xs.getD k 0) := hu
          have hkl := keepTo_le xs src k
          have hws : wq.heap.size ≤ wr.heap.size := HR.out.2.size
          clear hcase hcx hu
          by_cases hus : u = src
          · have HX' : Hid (u = src) := hus
            have hb : (u != src) = false := by simpa using hus
            clear hus
            go_wp2
            go_roundw
            case rel => exact ⟨k + 1, by omega, by go_num, by rw [keepTo_hit xs src k hlt (HU.out ▸ HX'.out)]; exact HR.out.1, HR.out.2⟩
            case measure => simp [intOf]; omega
          · have HX' : Hid (¬ u = src) := hus
            have hb : (u != src) = true := by simpa using hus
            clear hus
            go_wp2_with (at_builtin; refine wpList_append_own _ rfl _ _ 23 rfl wq.heap.size 3 i3 (.int .i64 0) 1 8 Ybad.underlying23 hi3 hz30 hz31 hz32 rfl (by decide) _ _ _ rfl (HR.out.1.alloc _) ⟨wr.heap.size, 0, none⟩ 1 1 [.int .i64 u] rfl rfl (cell_one_new _ _ _) (ints_oneCell .i64 [u]) (by unfold maxLen; omega) (by omega) (by simp; omega) ?_)
            intro v' w1 hown1 hg1 _
            have HR1 : Hid (w1.ownsRow wq.heap.size 3 1 v' (keepTo xs src (k + 1)).length ((keepTo xs src (k + 1)).map (Value.int .i64)) ∧ Below wq.heap.size wq w1) := by
              refine ⟨?_, (HR.out.2.alloc hws _).grown hg1 (by simp; omega) (own_ge HR.out.1)⟩
              rw [keepTo_miss xs src k hlt (HU.out ▸ HX'.out), ← HU.out]
              simpa using hown1
            clear hown1 hg1
            go_wp2
            go_roundw
            case rel => exact ⟨k + 1, by omega, by go_num, HR1.out⟩
            case measure => simp [intOf]; omega
        · obtain rfl : k = xs.length := by omega
          have hKpos : 0 < (keepTo xs src xs.length).length := List.length_pos_iff.2 HKn.out
          have hKle := keepTo_le xs src xs.length
          obtain ⟨g9, c9, rfl, _, _, _, _, hcells9, _⟩ := own_pos HR.out.1 hKpos
          have HTo : Hid (HoldsI wr .i64 (.slice (some ⟨g9, 0, none⟩) (keepTo xs src xs.length).length c9) (keepTo xs src xs.length)) := ⟨_, _, rfl, .inr ⟨g9, 0, rfl, fun j hj => by rw [Nat.zero_add]; exact hcells9 j hj⟩⟩
          obtain ⟨g1, d1, g2, d2, t0, t1, t2, t3, t4⟩ := HSq.out
          have e0 := cell_later HR.out.2 t0
          have e1 := cell_later HR.out.2 t1
          have e2 := cell_later HR.out.2 t2
          have HTo2 : Hid (HoldsI wr .i64 (.slice (some ⟨g2, 0, none⟩) (keepTo xs src xs.length).length d2) (keepTo xs src xs.length)) := ⟨_, _, rfl, .inr ⟨g2, 0, rfl, fun j hj => by rw [Nat.zero_add]; exact cell_later HR.out.2 (t4 j hj)⟩⟩
          have HP : Hid (HoldsI wr .u8 (.slice (some ⟨g1, 0, none⟩) (wire src msg).length d1) (wire src msg)) := ⟨_, _, rfl, .inr ⟨g1, 0, rfl, fun j hj => by rw [Nat.zero_add]; exact cell_later HR.out.2 (t3 j hj)⟩⟩
          have HMr : Hid (HoldsI wr .u8 (.slice mo msg.length cm) msg) := holds_later HR.out.2 HMq.out
          have HBr : Hid (Below w.heap.size w wr) := HBwq.out.trans (HR.out.2.mono HBwq.out.size)
          obtain ⟨K, hKK⟩ : ∃ K, K = keepTo xs src xs.length := ⟨_, rfl⟩
          rw [← hKK] at hKpos hKle HTo HTo2 e2 ⊢
          have hK0 : ((K.length : Int) == 0) = false := by rw [beq_eq_false_iff_ne]; omega
          clear hcells9 t0 t1 t2 t3 t4 HSq HXq HMq HBwq HR hKK
          go_wp2_with (go_at_call 9; refine (eqI _ _ K _ (by unfold maxLen; omega) HTo2.out HTo.out).mono ?_)
          rintro e wz rfl m3 hwz
          have HZ : Hid (Below wr.heap.size wr wz) := by rw [hwz]; exact below_drewN (Below.refl _ _) m3
          have e1z := cell_later HZ.out e1
          have HPz : Hid (HoldsI wz .u8 (.slice (some ⟨g1, 0, none⟩) (wire src msg).length d1) (wire src msg)) := holds_later HZ.out HP.out
          have HMz : Hid (HoldsI wz .u8 (.slice mo msg.length cm) msg) := holds_later HZ.out HMr.out
          have HBz : Hid (Below w.heap.size w wz) := HBr.out.trans (HZ.out.mono HBr.out.size)
          have hu1 : IntKind.u16.wrap src = src % 65536 := IntKind.wrap_u16 src
          have hu2 : IntKind.u16.wrap (msg.length : Int) = msg.length := by rw [IntKind.wrap_u16]; omega
          have hu3 : IntKind.u8.wrap (src % 65536 / 256) = src % 65536 / 256 := by rw [IntKind.wrap_u8]; omega
          have hu4 : IntKind.u8.wrap (src % 65536) = src % 65536 % 256 := by rw [IntKind.wrap_u8]
          have hu5 : IntKind.u8.wrap ((msg.length : Int) / 256) = (msg.length : Int) / 256 := by rw [IntKind.wrap_u8]; omega
          have hu6 : IntKind.u8.wrap (msg.length : Int) = (msg.length : Int) % 256 := by rw [IntKind.wrap_u8]
          clear hwz HTo HTo2 HP HMr HBr e0 e1 e2 HZ hKpos hKle hK0
          have hlit := World.ownsRow_lit (base := wz.heap.size) (e := 5) (size := 1) wz #[.int .u8 (src % 65536 / 256), .int .u8 (src % 256), .int .u8 ((msg.length : Int) / 256), .int .u8 ((msg.length : Int) % 256)] 4 (Nat.le_refl _) (by unfold maxLen; omega) rfl
          have HLIT : Hid _ := hlit
          have hMz2 := holds_later (((Below.refl wz.heap.size wz).alloc (Nat.le_refl _) (.cells #[.int .u8 (src % 65536 / 256), .int .u8 (src % 256), .int .u8 ((msg.length : Int) / 256), .int .u8 ((msg.length : Int) % 256)] 5))) HMz.out
          have HMz2 : Hid _ := hMz2
          clear hlit hMz2
          go_wp2_with (at_builtin; refine wpList_addrow rfl (.tmp 197) (.tmp 198) 22 rfl wz.heap.size 5 .u8 i5 1 Ybad.underlying22 hi5 hz50 hz51 hz52 _ 4 _ rfl HLIT.out _ rfl msg HMz2.out HN1.out (by unfold maxLen; omega) (by omega) (by simp) ?_)
          intro u1 wy hown1 hg1
          have hby : Below wz.heap.size wz wy := ((Below.refl _ _).alloc (Nat.le_refl _) _).grown hg1 (by simp) (own_ge HLIT.out)
          have HBY : Hid (Below wz.heap.size wz wy) := hby
          have hwy : wz.heap.size ≤ wy.heap.size := hby.size
          have HOY : Hid _ := hown1
          clear hown1 hg1 hby HLIT HMz2 HMz
          go_wp2_with (at_builtin; refine wpList_append_own _ rfl (.tmp 200) (.tmp 201) 22 rfl wz.heap.size 5 i5 (.int .u8 0) 1 1 Ybad.underlying22 hi5 hz50 hz51 hz52 rfl (by decide) u1 (4 + msg.length) _ rfl (World.ownsRow.alloc HOY.out _) ⟨wy.heap.size, 0, none⟩ 2 2 [.int .u8 0, .int .u8 0] rfl rfl (cell_two_new _ _ _ _) (by simp [Value.oneCell']) (by unfold maxLen; omega) (by omega) (by simp; omega) ?_)
          intro u2 wx hown2 hg2 _
          have hbx : Below wz.heap.size wz wx := (HBY.out.alloc hwy _).grown hg2 (by simp; omega) (own_ge HOY.out)
          have hown3 : wx.ownsRow wz.heap.size 5 1 u2 (wire src msg).length ((wire src msg).map (Value.int .u8)) := by
            have e : (wire src msg).length = 4 + msg.length + 2 := by rw [wire_length]; omega
            have e2 : src % 65536 % 256 = src % 256 := by omega
            rw [e]
            simpa [wire, e2] using hown2
          obtain ⟨g3, d3, rfl, _, _, _, _, hcells3, _⟩ := own_pos hown3 (by rw [wire_length]; omega)
          have HW : Hid (HoldsI wx .u8 (.slice (some ⟨g3, 0, none⟩) (wire src msg).length d3) (wire src msg)) := ⟨_, _, rfl, .inr ⟨g3, 0, rfl, fun j hj => by rw [Nat.zero_add]; exact hcells3 j hj⟩⟩
          have HPx : Hid (HoldsI wx .u8 (.slice (some ⟨g1, 0, none⟩) (wire src msg).length d1) (wire src msg)) := holds_later hbx HPz.out
          have e1x := cell_later hbx e1z
          have HBx : Hid (Below w.heap.size w wx) := HBz.out.trans (hbx.mono HBz.out.size)
          have hwl : (wire src msg).length ≤ 5000 := by rw [wire_length]; omega
          clear hown2 hown3 hg2 hcells3 HBY HOY hbx HPz HBz
          go_wp2_with (go_at_call 10; refine (eqB _ _ (wire src msg) _ (by unfold maxLen; omega) HPx.out HW.out).mono ?_)
          rintro e we rfl m4 hwe
          have HE : Hid (Below w.heap.size w we) := by rw [hwe]; exact below_drewN HBx.out m4
          clear hwe
          go_wp2
          go_ret
          exact ⟨rfl, HE.out⟩

end Go.Proofs.YbulkchqmDoor
