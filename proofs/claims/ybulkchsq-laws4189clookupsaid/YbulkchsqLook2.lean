/-
  THE SEAT b4189a: LawS4189CLookup (3): the walk where no pairs came in (the second half is the first text's own, laid by program).
-/
import Derived.Test.YbulkchsqLook
namespace Go.Proofs.Ybulkchsq
open Go.RowKit Go.Maps Go.WideMaps Go.ChangeMaps
set_option linter.unusedVariables false
set_option linter.unusedSimpArgs false

theorem start2 (w : World) (M : Nat) : Rel2 w M (.slice none 0 0) (.slice none 0 0) (.int .i64 0) (w.alloc (.cells Z32 32)) := by
  refine ⟨0, [], [], .map none, Nat.zero_le _, rfl, by simp, Ls.nil, Two.start _ _ _, ⟨⟨.slice none 0 0, by simp⟩, by simp, by simp, by simp, Nat.le_refl _, .inl ⟨rfl, fun s => by rw [lk_nil], rfl⟩⟩, (Below.refl _ _).alloc (Nat.le_refl _) _⟩

set_option maxRecDepth 100000 in
set_option maxHeartbeats 4000000 in
theorem lookup_none (cap0 cap1 : Nat) (a0 a1 : Option Addr) (qs : List ByteArray) (w : World) (hM : qs.length ≤ 1024)
    (hQ : HoldsS w (.slice a1 qs.length cap1) qs) (hqs : ∀ s ∈ qs, s.size ≤ maxLen) :
    Calls Yba.prog 3 #[.slice a0 0 cap0, .slice a1 qs.length cap1] w fun e w' => e = .returned (.bool true) ∧ Below w.heap.size w w' := by
  obtain ⟨i9, hi9, hz0, hz1, hz2⟩ := info_parts info9
  have HQ : Hid (HoldsS w (.slice a1 qs.length cap1) qs) := hQ
  have c2 : ¬ (1024 : Int) < (qs.length : Int) := by omega
  have HS2 : Hid (Rel2 w qs.length (.slice none 0 0) (.slice none 0 0) (.int .i64 0) (w.alloc (.cells Z32 32))) := start2 w qs.length
  clear hQ
  go_enter Yba.func3, Yba.ntmps3
  go_wp2
  refine wp_loop_rounds 1 ?_
  rw [rounds_succ]
  go_wp2
  go_loopw [5, 6, 74] (fun kv vv iv wr => Rel2 w qs.length kv vv iv wr) (fun _ _ iv _ => qs.length - (intOf iv).toNat)
  case atStart => exact HS2.out
  case round =>
    clear HS2
    obtain ⟨i, ks, vs, mv, hi, rfl, hki, hls, htwo, hrd, hbel⟩ := hrel
    have HL : Hid (Ls ks vs) := hls
    have HT : Hid (Two w.heap.size w.heap.size wr _ _ ks vs) := htwo
    have HR : Hid (Rd w.heap.size w.heap.size wr mv (lk ks vs) ks.length) := hrd
    have HB : Hid (Below w.heap.size w wr) := hbel
    clear hls htwo hrd hbel
    by_cases hlt : i < qs.length
    · have h3 : (i : Int) < (qs.length : Int) := by omega
      obtain ⟨ao, cq, hv, hs⟩ := HQ.out
      simp only [Value.slice.injEq, true_and] at hv
      obtain ⟨rfl, rfl⟩ := hv
      rcases hs with h0 | ⟨qb, qo, rfl, hs⟩
      · rw [h0] at hlt; simp at hlt
      have hcell := hs i hlt
      rw [← HB.out.cell (p := ⟨qb, qo + i, none⟩) (cell_lt hcell)] at hcell
      have hqz : (qs.getD i e0).size ≤ maxLen := by
        rw [List.getD_eq_getElem?_getD, List.getElem?_eq_getElem hlt]
        exact hqs _ (List.getElem_mem hlt)
      generalize qs.getD i e0 = q at hcell hqz
      obtain ⟨hr2, hc6, hsp⟩ := HR.out.str q
      have hconv := conv_bytes' wr q
      obtain ⟨v6, c6⟩ := (HR.out.later (below_bytes wr q)).c6
      have f6 := (HR.out.later (below_bytes wr q)).f6
      have HR2 : Hid (Rd w.heap.size w.heap.size (strWorld wr w.heap.size q) mv (lk ks vs) ks.length) := hr2
      have HC6 : Hid ((strWorld wr w.heap.size q).cell? ⟨w.heap.size, 6, none⟩ = some (.slice (some ⟨wr.heap.size, 0, none⟩) q.size (grownCap wr q.size 0 5))) := hc6
      have HSP : Hid (Spells (strWorld wr w.heap.size q) (.slice (some ⟨wr.heap.size, 0, none⟩) q.size (grownCap wr q.size 0 5)) q) := hsp
      have HB2 : Hid (Below w.heap.size w (strWorld wr w.heap.size q)) := HB.out.trans (str_below q (Nat.le_refl _) HB.out.size)
      have HT2 : Hid (Two w.heap.size w.heap.size (strWorld wr w.heap.size q) u5 u6 ks vs) := HT.out.str q
      have hkp : ∀ g, u5.ownBlock = some g → g < wr.heap.size := HT.out.lt.1
      have hvp : ∀ g, u6.ownBlock = some g → g < wr.heap.size := HT.out.lt.2
      clear hr2 hc6 hsp HT HR HB hs
      go_wp2_with (go_at_call 6; refine (intern_any w.heap.size w.heap.size _ mv q (lk ks vs) ks.length _ hqz HR2.out HSP.out HC6.out HB2.out.size).mono ?_)
      rintro e w2 ⟨rfl, mv', hrd', hkeep⟩
      have hc6' := hkeep.cell _ _ (by simp) HC6.out
      have hsp' := HSP.out.later (w' := w2) (fun a u ha => hkeep.cell a _ (fun e => by rw [e, HR2.out.c9] at ha; cases ha; rcases HR2.out.map with ⟨h, _⟩ | ⟨_, h, _⟩ <;> cases h) ha)
      have HT3 : Hid (Two w.heap.size w.heap.size w2 u5 u6 ks vs) := HT2.out.keeps hkeep
      have HB3 : Hid (Below w.heap.size w w2) := HB2.out.trans hkeep.below
      have HR3 : Hid (Rd w.heap.size w.heap.size w2 mv' (nextF (lk ks vs) ks.length q) (nextSz (lk ks vs) ks.length q)) := hrd'
      have HSP3 : Hid (Spells w2 (.slice (some ⟨wr.heap.size, 0, none⟩) q.size (grownCap wr q.size 0 5)) q) := hsp'
      clear hrd' hkeep hsp' HR2 HC6 HSP HB2 HT2 hconv c6 f6 hcell
      generalize hsb : wr.heap.size = sb at *
      generalize grownCap wr q.size 0 5 = scap at *
      go_wp2_with (go_at_call 5; refine (find_any _ ks q w2 (by omega) (own_holds HT3.out.ok)).mono ?_)
      rintro e w3 ⟨rfl, rfl⟩
      cases hp : posOf ks q with
      | some j =>
        obtain ⟨hj, _⟩ := of_posOf_some hp
        have hlv := HL.out.len
        have hpi : posI ks q = j := by unfold posI; rw [hp]
        have hlkq : lk ks vs q = some (vs.getD j e0) := by
          unfold lk
          rw [hp, Option.bind_some, List.getElem?_eq_getElem (by omega), List.getD_eq_getElem?_getD, List.getElem?_eq_getElem (by omega)]
          rfl
        have hyes : (lk ks vs q).isSome = true ∨ 256 ≤ ks.length := .inl (by rw [hlkq]; rfl)
        have hnf : nextF (lk ks vs) ks.length q = lk ks vs := by unfold nextF; rw [if_pos hyes]
        have hns : nextSz (lk ks vs) ks.length q = ks.length := by unfold nextSz; rw [if_pos hyes]
        have hgot : (lk ks vs q).getD q = vs.getD j e0 := by rw [hlkq]; rfl
        simp only [hpi, hgot]
        have hov := HT3.out.ov
        obtain ⟨g, cap, rfl, hcell⟩ : ∃ g cap, u6 = .slice (some ⟨g, 0, none⟩) vs.length cap ∧ ∀ j, j < vs.length → w3.cell? ⟨g, j, none⟩ = (vs.map Value.string)[j]? := by
          have h' := hov
          rcases hov.2 with ⟨_, h0⟩ | ⟨g, cap, cur, rfl, _⟩
          · omega
          · exact ⟨g, cap, rfl, fun j hj => h'.cellAt j (by omega)⟩
        have hc : w3.cell? ⟨g, j, none⟩ = some (.string (vs.getD j e0)) := by
          rw [hcell j (by omega)]
          simp [List.getD_eq_getElem?_getD, List.getElem?_eq_getElem (show j < vs.length by omega)]
        have hcv := HSP3.out.conv
        rw [hnf, hns] at HR3
        have hjv : (j : Int) < (vs.length : Int) := by omega
        have hj0 : (0 : Int) ≤ (j : Int) := by omega
        clear hlv hov hcell hnf hns hlkq hyes hgot
        generalize vs.getD j e0 = x at *
        go_wp2
        go_roundw
        case rel => exact ⟨i + 1, ks, vs, mv', by omega, by go_num, by omega, HL.out, HT3.out, HR3.out, HB3.out⟩
        case measure => simp [intOf]; omega
      | none =>
        have hpi : posI ks q = -1 := by unfold posI; rw [hp]
        have hlkq : lk ks vs q = none := by unfold lk; rw [hp]; rfl
        have hgot : (lk ks vs q).getD q = q := by rw [hlkq]; rfl
        simp only [hpi, hgot]
        have hown := HT3.out.ok
        obtain ⟨ao, kcap, rfl, _⟩ := own_holds HT3.out.ok
        by_cases h256 : ks.length < 256
        · have h256' : (ks.length : Int) < 256 := by omega
          have hno : ¬ ((lk ks vs q).isSome = true ∨ 256 ≤ ks.length) := by rw [hlkq]; simp; omega
          have hnf : nextF (lk ks vs) ks.length q = lk (ks ++ [q]) (vs ++ [q]) := by unfold nextF; rw [if_neg hno, lk_new HL.out.len hp]
          have hns : nextSz (lk ks vs) ks.length q = (ks ++ [q]).length := by unfold nextSz; rw [if_neg hno, List.length_append]; rfl
          rw [hnf, hns] at HR3
          have hrb : w.heap.size < w3.heap.size := HR3.out.lt
          have hownK := hown.alloc (.cells #[.string q] 9)
          have hl1 : ks.length + 1 ≤ maxLen := by unfold maxLen; omega
          have hl2 : (ks.length + 1) * 16 ≤ 140737488355328 := by omega
          have hb1 := lit_size w3 w.heap.size (.cells #[.string q] 9) (by omega)
          have hnw := lit_news w3 q
          have hon := lit_one q
          clear hno hnf hns hgot hlkq
          go_wp2_with (at_builtin; refine wpList_append_own_at _ rfl _ _ 23 rfl w.heap.size 9 i9 (.string ⟨#[]⟩) 1 16 Yba.underlying23 hi9 hz0 hz1 hz2 rfl (by decide) _ ks.length (ks.map Value.string) rfl hownK ⟨w3.heap.size, 0, none⟩ 1 1 [.string q] rfl rfl hnw hon hl1 hl2 hb1 ?_)
          intro kv' w4 hown4 hg4 hnil4 hat4
          have hT4 := HT3.out.pushK hrb hown4 hg4 hat4
          have hga := World.grownBy_alloc w3 (.cells #[.string q] 9) none
          have hR4 := (HR3.out.grown hga (by simp) (fun _ _ => by simp)).own hownK HT3.out.kne hg4
          have hB4 : Below w.heap.size w w4 := (HB3.out.alloc (by omega) (.cells #[.string q] 9)).grown hg4 hb1 (fun k hk => (hown.lt k hk).1)
          have hs4 := (HSP3.out.grownAt hga (by simp)).grownAt hg4 (fun e => Nat.lt_irrefl sb (hkp sb e.symm))
          have hc4 : w4.cell? ⟨w.heap.size, 6, none⟩ = some (.slice (some ⟨sb, 0, none⟩) q.size scap) := hg4.cell (hga.cell hc6' (by simp)) (Ne.symm HT3.out.kne)
          have HT4 : Hid (Two w.heap.size w.heap.size w4 kv' u6 (ks ++ [q]) vs) := hT4
          have HR4 : Hid (Rd w.heap.size w.heap.size w4 mv' (lk (ks ++ [q]) (vs ++ [q])) (ks ++ [q]).length) := hR4
          have HB4 : Hid (Below w.heap.size w w4) := hB4
          have HS4 : Hid (Spells w4 (.slice (some ⟨sb, 0, none⟩) q.size scap) q) := hs4
          clear hT4 hR4 hB4 hs4 hown4 hg4 hnil4 hat4 hownK hb1 hnw hon HT3 HR3 HB3 HSP3 hga hown hc6'
          have hrb4 : w.heap.size < w4.heap.size := HR4.out.lt
          have hlv := HL.out.len
          have hownV := HT4.out.ov.alloc (.cells #[.string q] 9)
          have hl3 : vs.length + 1 ≤ maxLen := by unfold maxLen; omega
          have hl4 : (vs.length + 1) * 16 ≤ 140737488355328 := by omega
          clear hlv
          have hb2 := lit_size w4 w.heap.size (.cells #[.string q] 9) (by omega)
          have hnw2 := lit_news w4 q
          have hon2 := lit_one q
          go_wp2_with (at_builtin; refine wpList_append_own_at _ rfl _ _ 23 rfl w.heap.size 9 i9 (.string ⟨#[]⟩) 1 16 Yba.underlying23 hi9 hz0 hz1 hz2 rfl (by decide) _ vs.length (vs.map Value.string) rfl hownV ⟨w4.heap.size, 0, none⟩ 1 1 [.string q] rfl rfl hnw2 hon2 hl3 hl4 hb2 ?_)
          intro vv' w5 hown5 hg5 hnil5 hat5
          have hT5 := HT4.out.pushV hrb4 hown5 hg5 hat5
          have hga := World.grownBy_alloc w4 (.cells #[.string q] 9) none
          have hR5 := (HR4.out.grown hga (by simp) (fun _ _ => by simp)).own hownV HT4.out.vne hg5
          have hB5 : Below w.heap.size w w5 := (HB4.out.alloc (by omega) (.cells #[.string q] 9)).grown hg5 hb2 (fun k hk => (HT4.out.ov.lt k hk).1)
          have hs5 := (HS4.out.grownAt hga (by simp)).grownAt hg5 (fun e => Nat.lt_irrefl sb (hvp sb e.symm))
          have hc5 : w5.cell? ⟨w.heap.size, 6, none⟩ = some (.slice (some ⟨sb, 0, none⟩) q.size scap) := hg5.cell (hga.cell hc4 (by simp)) (Ne.symm HT4.out.vne)
          have hcv := hs5.conv
          have HT5 : Hid (Two w.heap.size w.heap.size w5 kv' vv' (ks ++ [q]) (vs ++ [q])) := hT5
          have HR5 : Hid (Rd w.heap.size w.heap.size w5 mv' (lk (ks ++ [q]) (vs ++ [q])) (ks ++ [q]).length) := hR5
          have HB5 : Hid (Below w.heap.size w w5) := hB5
          clear hT5 hR5 hB5 hs5 hown5 hg5 hnil5 hat5 hownV hb2 hnw2 hon2 HT4 HR4 HB4 HS4 hga hc4
          go_wp2
          go_roundw
          case rel => exact ⟨i + 1, ks ++ [q], vs ++ [q], mv', by omega, by go_num, by simp; omega, HL.out.push hp hqz hqz, HT5.out, HR5.out, HB5.out⟩
          case measure => simp [intOf]; omega
        · have h256' : ¬ (ks.length : Int) < 256 := by omega
          have hyes : (lk ks vs q).isSome = true ∨ 256 ≤ ks.length := .inr (by omega)
          have hnf : nextF (lk ks vs) ks.length q = lk ks vs := by unfold nextF; rw [if_pos hyes]
          have hns : nextSz (lk ks vs) ks.length q = ks.length := by unfold nextSz; rw [if_pos hyes]
          rw [hnf, hns] at HR3
          have hcv := HSP3.out.conv
          clear hyes hnf hns hgot hlkq hown
          go_wp2
          go_roundw
          case rel => exact ⟨i + 1, ks, vs, mv', by omega, by go_num, by omega, HL.out, HT3.out, HR3.out, HB3.out⟩
          case measure => simp [intOf]; omega
    · have h3 : ¬ (i : Int) < (qs.length : Int) := by omega
      have c9 := HR.out.c9
      have hlen := fun ty => HR.out.map.len ty
      have hnil := fun w' => HR.out.map.nil (w' := w')
      by_cases h0 : ks.length = 0
      · obtain rfl := List.eq_nil_of_length_eq_zero h0
        obtain ⟨ao, kcap, rfl, _⟩ := own_holds HT.out.ok
        have hnil' : ∀ w', (binOp .eql 28 mv (.map none)).run Yba.prog w' = .ok (.bool true) w' := hnil
        have hlen' : ∀ ty, (Builtin.len_ #[28] ty #[mv]).run Yba.prog wr = .ok (.int .i64 0) wr := hlen
        clear hnil hlen
        simp only [List.length_nil]
        go_wp2
        refine wp_loop_rounds 1 ?_
        rw [rounds_succ]
        go_wp2
        go_ret
        exact ⟨rfl, HB.out⟩
      · have h0' : ((ks.length : Int) == 0) = false := beq_eq_false_iff_ne.2 (by omega)
        have h0'' : (ks.length == 0) = false := beq_eq_false_iff_ne.2 h0
        rw [h0''] at hnil
        have hlv := HL.out.len
        obtain ⟨kg, kcap, rfl⟩ := own_at HT.out.ok (by omega)
        obtain ⟨vg, vcap, rfl⟩ := own_at HT.out.ov (by omega)
        have HS3 : Hid (Rel3 w (.slice (some ⟨kg, 0, none⟩) ks.length kcap) (.slice (some ⟨vg, 0, none⟩) vs.length vcap) mv ks vs (.int .i64 0) wr) := ⟨0, Nat.zero_le _, rfl, HT.out, HR.out, HB.out⟩
        clear h0'' HT HR HB hlv
        go_wp2
        clear c9 hlen hnil
        go_loopw [16] (fun iv wr => Rel3 w (.slice (some ⟨kg, 0, none⟩) ks.length kcap) (.slice (some ⟨vg, 0, none⟩) vs.length vcap) mv ks vs iv wr) (fun iv _ => ks.length - (intOf iv).toNat)
        case atStart => exact HS3.out
        case round =>
          clear HS3
          obtain ⟨i, hi, rfl, htwo, hrd, hbel⟩ := hrel
          have HT : Hid (Two w.heap.size w.heap.size wr (.slice (some ⟨kg, 0, none⟩) ks.length kcap) (.slice (some ⟨vg, 0, none⟩) vs.length vcap) ks vs) := htwo
          have HR : Hid (Rd w.heap.size w.heap.size wr mv (lk ks vs) ks.length) := hrd
          have HB : Hid (Below w.heap.size w wr) := hbel
          clear htwo hrd hbel
          by_cases hlt : i < ks.length
          · have h4 : (i : Int) < (ks.length : Int) := by omega
            have hlv := HL.out.len
            have h5 : (i : Int) < (vs.length : Int) := by omega
            have hkc := own_cell HT.out.ok hlt
            have hvc := own_cell HT.out.ov (j := i) (by omega)
            obtain ⟨hat, hsz⟩ := lk_at HL.out hlt
            have hlook : ∀ m, (Instr.lookup 28 mv (.string (ks.getD i e0)) true).run Yba.prog (wr.drewN m) = .ok (.tuple #[.string (vs.getD i e0), .bool true]) (wr.drewN m) := fun m => by
              have := (HR.out.grown (grown_drewN wr m) (by simp) (fun _ _ => by simp)).map.look hsz
              rw [hat] at this
              exact this
            have c9 := HR.out.c9
            clear hlv hat hsz
            generalize ks.getD i e0 = kk at *
            generalize vs.getD i e0 = vk at *
            go_wp2
            go_quiet (fail)
            go_wp2
            go_roundw
            case rel => exact ⟨i + 1, by omega, by go_num, HT.out.new (grown_drewN wr _), HR.out.grown (grown_drewN wr _) (by simp) (fun _ _ => by simp), below_drewN HB.out _⟩
            case measure => simp [intOf]; omega
          · have h4 : ¬ (i : Int) < (ks.length : Int) := by omega
            go_wp2
            go_ret
            exact ⟨rfl, HB.out⟩

end Go.Proofs.Ybulkchsq
