/-
  THE SEAT b4189a: LawS4189CLookup (3): the walk.
-/
import Derived.Test.YbulkchsqState
import Derived.BigRegion
namespace Go.Proofs.Ybulkchsq
open Go.RowKit Go.Maps Go.WideMaps Go.ChangeMaps
set_option linter.unusedVariables false
set_option linter.unusedSimpArgs false

@[go_sem] theorem guard_map_nil' (t : TypeId) (x y : Operand) (mv : Value) : eqGuard .eql t x y mv (.map none) = pure () := by cases mv <;> rfl

theorem conv_bytes' (w : World) (s : ByteArray) : (convert 9 27 (.string s)).run Yba.prog w = .ok (.slice (some ⟨w.heap.size, 0, none⟩) s.size (grownCap w s.size 0 5)) (Lib.bytesWorld w 5 s) :=
  Lib.run_convert_string_bytes w 9 27 5 s Yba.underlying9 Yba.underlying27 Yba.underlying5

theorem lookup_long (a a1 : Option Addr) (L cap M cap1 : Nat) (w : World) (h1 : L ≤ maxLen) (h2 : M ≤ maxLen) (h : 1024 < L ∨ 1024 < M) :
    Calls Yba.prog 3 #[.slice a L cap, .slice a1 M cap1] w fun e w' => e = .returned (.bool true) ∧ w' = w := by
  unfold maxLen at h1 h2
  by_cases hl : 1024 < L
  · have h' : (1024 : Int) < (L : Int) := by omega
    go_enter Yba.func3, Yba.ntmps3
    go_wp2
    go_ret
    exact ⟨rfl, rfl⟩
  · have h' : ¬ (1024 : Int) < (L : Int) := by omega
    have h3 : (1024 : Int) < (M : Int) := by omega
    go_enter Yba.func3, Yba.ntmps3
    go_wp2
    go_ret
    exact ⟨rfl, rfl⟩

/-- the reader's cells as '&jsonReader{}' lays them. -/
abbrev Z32 : Array Value := #[.nilIface, .slice none 0 0, .int .i64 0, .int .i64 0, .int .i64 0, .bool false, .slice none 0 0, .slice none 0 0, .slice none 0 0, .map none, .nilIface]

/-- the cells of the pairs that came in. -/
def Pairs (w : World) (pb po : Nat) (pks pvs : List ByteArray) : Prop :=
  ∀ j, j < pks.length → w.cell? ⟨pb, po + j * 2, none⟩ = some (.string (pks.getD j e0)) ∧ w.cell? ⟨pb, po + j * 2 + 1, none⟩ = some (.string (pvs.getD j e0)) ∧ (pks.getD j e0).size ≤ maxLen ∧ (pvs.getD j e0).size ≤ maxLen

theorem grown_drew (w : World) : w.grownBy w.drew none := ⟨rfl, rfl, rfl, Nat.le_refl _, fun _ _ _ => rfl⟩
theorem info9 : (Yba.prog.info? 9).map (fun i => (i.zero, i.size, i.bytes)) = some (some (.string ⟨#[]⟩), 1, 16) := by kernel_rfl

/-- the one cell of a literal slice of one string. -/
theorem lit_news (w : World) (s : ByteArray) : ∀ j u, [Value.string s][j]? = some u → (w.alloc (.cells #[.string s] 9)).cell? ((⟨w.heap.size, 0, none⟩ : Addr).add j) = some u := fun j u hj => by
  cases j with
  | zero => simp at hj; subst hj; simp [Addr.add]
  | succ j => simp at hj
theorem lit_one (s : ByteArray) : ∀ u ∈ [Value.string s], u.oneCell' = true := by simp [Value.oneCell']
theorem lit_size (w : World) (B : Nat) (o : Obj) (h : B ≤ w.heap.size) : B ≤ (w.alloc o).heap.size := by rw [World.size_alloc]; omega

/-- THE FIRST LOOP's HEAD. -/
def Rel1 (w : World) (L : Nat) (kv vv iv : Value) (wr : World) : Prop :=
  ∃ (i : Nat) (ks vs : List ByteArray), i ≤ L ∧ iv = .int .i64 i ∧ ks.length ≤ i ∧ (0 < i → 0 < ks.length) ∧ Ls ks vs ∧ Two w.heap.size w.heap.size wr kv vv ks vs ∧ RdM w.heap.size w.heap.size wr (w.heap.size + 1) (lk ks vs) ks.length ∧ Below w.heap.size w wr

/-- THE SECOND LOOP's HEAD. -/
def Rel2 (w : World) (M : Nat) (kv vv iv : Value) (wr : World) : Prop :=
  ∃ (i : Nat) (ks vs : List ByteArray) (mv : Value), i ≤ M ∧ iv = .int .i64 i ∧ ks.length ≤ 1024 + i ∧ Ls ks vs ∧ Two w.heap.size w.heap.size wr kv vv ks vs ∧ Rd w.heap.size w.heap.size wr mv (lk ks vs) ks.length ∧ Below w.heap.size w wr

/-- THE THIRD LOOP's HEAD. -/
def Rel3 (w : World) (kv vv mv : Value) (ks vs : List ByteArray) (iv : Value) (wr : World) : Prop :=
  ∃ i : Nat, i ≤ ks.length ∧ iv = .int .i64 i ∧ Two w.heap.size w.heap.size wr kv vv ks vs ∧ Rd w.heap.size w.heap.size wr mv (lk ks vs) ks.length ∧ Below w.heap.size w wr

theorem grown_drewN (w : World) (n : Nat) : w.grownBy (w.drewN n) none := ⟨rfl, rfl, rfl, Nat.le_refl _, fun _ _ _ => rfl⟩

theorem own_at {w : World} {B : Nat} {v : Value} {ss : List ByteArray} (h : w.ownsRow B 9 1 v ss.length (ss.map Value.string)) (h0 : 0 < ss.length) : ∃ g cap, v = .slice (some ⟨g, 0, none⟩) ss.length cap := by
  rcases h.2 with ⟨_, h1⟩ | ⟨g, cap, cur, rfl, _⟩
  · omega
  · exact ⟨g, cap, rfl⟩

theorem own_cell {w : World} {B g cap : Nat} {ss : List ByteArray} (h : w.ownsRow B 9 1 (.slice (some ⟨g, 0, none⟩) ss.length cap) ss.length (ss.map Value.string)) {j : Nat} (hj : j < ss.length) : w.cell? ⟨g, j, none⟩ = some (.string (ss.getD j e0)) := by
  rw [h.cellAt j (by omega)]
  simp [List.getD_eq_getElem?_getD, List.getElem?_eq_getElem hj]

theorem lk_at {ks vs : List ByteArray} (h : Ls ks vs) {i : Nat} (hi : i < ks.length) : lk ks vs (ks.getD i e0) = some (vs.getD i e0) ∧ (ks.getD i e0).size ≤ maxLen := by
  have e : ks.getD i e0 = ks[i] := by rw [List.getD_eq_getElem?_getD, List.getElem?_eq_getElem hi]; rfl
  have e2 : vs.getD i e0 = vs[i]'(by rw [h.len]; exact hi) := by rw [List.getD_eq_getElem?_getD, List.getElem?_eq_getElem (by rw [h.len]; exact hi)]; rfl
  refine ⟨?_, by rw [e]; exact h.szk _ (List.getElem_mem hi)⟩
  unfold lk
  rw [e, posOf_nodup h.nodup hi, Option.bind_some, e2, List.getElem?_eq_getElem]

theorem Spells.grownAt {w w' : World} {b n cap : Nat} {s : ByteArray} {row : Option Nat} (h : Spells w (.slice (some ⟨b, 0, none⟩) n cap) s) (hg : w.grownBy w' row) (hne : some b ≠ row) : Spells w' (.slice (some ⟨b, 0, none⟩) n cap) s := by
  obtain ⟨b', cap', e, hc⟩ := h
  simp only [Value.slice.injEq, Option.some.injEq, Addr.mk.injEq, and_true] at e
  obtain ⟨rfl, rfl, rfl⟩ := e
  exact ⟨_, _, rfl, fun j hj => hg.cell (hc j hj) hne⟩

theorem grown_set (w : World) (a : Addr) (v : Value) : w.grownBy (w.setCell a v) (some a.block) :=
  ⟨rfl, rfl, rfl, by simp [World.setCell], fun k _ hk => Below.heap_setCell _ _ _ _ (fun e => hk (by rw [e]))⟩

theorem Two.str {B rb : Nat} {w : World} {kv vv : Value} {ks vs : List ByteArray} (h : Two B rb w kv vv ks vs) (s : ByteArray) : Two B rb (strWorld w rb s) kv vv ks vs :=
  (h.new (grown_below (below_bytes w s))).grown (grown_set _ _ _) (fun g e => by cases e; exact ⟨h.kne, h.vne⟩)

theorem start1 (w : World) (L : Nat) : Rel1 w L (.slice none 0 0) (.slice none 0 0) (.int .i64 0) ((w.alloc (.cells #[.nilIface, .slice none 0 0, .int .i64 0, .int .i64 0, .int .i64 0, .bool false, .slice none 0 0, .slice none 0 0, .slice none 0 0, .map (some (w.heap.size + 1)), .nilIface] 32)).alloc (.map #[] 0)) := by
  refine ⟨0, [], [], Nat.zero_le _, rfl, Nat.le_refl _, fun h => by omega, Ls.nil, Two.start _ _ _, ⟨⟨_, Lib.cell?_alloc_some _ (v := .slice none 0 0) (by simp)⟩, Lib.cell?_alloc_some _ (by simp), (frozen?_alloc_map _ _ _ _).trans (by simp), (frozen?_alloc_map _ _ _ _).trans (by simp), Nat.le_refl _, by omega, ?_⟩, ((Below.refl _ _).alloc (Nat.le_refl _) _).alloc (by simp) _⟩
  have := MapAt.made (w.alloc (.cells #[.nilIface, .slice none 0 0, .int .i64 0, .int .i64 0, .int .i64 0, .bool false, .slice none 0 0, .slice none 0 0, .slice none 0 0, .map (some (w.heap.size + 1)), .nilIface] 32))
  rw [World.size_alloc] at this
  rw [lk_nil]
  exact this

set_option maxRecDepth 100000 in
set_option maxHeartbeats 4000000 in
theorem lookup_some (pb po cap0 cap1 : Nat) (a1 : Option Addr) (pks pvs qs : List ByteArray) (w : World) (hL0 : 0 < pks.length) (hL : pks.length ≤ 1024) (hM : qs.length ≤ 1024)
    (hP : Pairs w pb po pks pvs) (hQ : HoldsS w (.slice a1 qs.length cap1) qs) (hqs : ∀ s ∈ qs, s.size ≤ maxLen) :
    Calls Yba.prog 3 #[.slice (some ⟨pb, po, none⟩) pks.length cap0, .slice a1 qs.length cap1] w fun e w' => e = .returned (.bool true) ∧ Below w.heap.size w w' := by
  obtain ⟨i9, hi9, hz0, hz1, hz2⟩ := info_parts info9
  have HP : Hid (Pairs w pb po pks pvs) := hP
  have HQ : Hid (HoldsS w (.slice a1 qs.length cap1) qs) := hQ
  have c1 : ¬ (1024 : Int) < (pks.length : Int) := by omega
  have c2 : ¬ (1024 : Int) < (qs.length : Int) := by omega
  have c3 : (0 : Int) < (pks.length : Int) := by omega
  clear hP hQ
  go_enter Yba.func3, Yba.ntmps3
  have hmk := fun w => run_makeMap (P := Yba.prog) 28 w
  have g1 : ((w.alloc (.cells Z32 32)).alloc (.map #[] 0)).cell? ⟨w.heap.size, 9, none⟩ = some (.map none) := Lib.cell?_alloc_some _ (by simp)
  have g2 : ((w.alloc (.cells Z32 32)).alloc (.map #[] 0)).frozen? ⟨w.heap.size, 9, none⟩ = false := (frozen?_alloc_map _ _ _ _).trans (by simp)
  go_wp2
  have HS := start1 w pks.length
  clear hmk g1 g2
  go_loopw [5, 6, 38] (fun kv vv iv wr => Rel1 w pks.length kv vv iv wr) (fun _ _ iv _ => pks.length - (intOf iv).toNat)
  case atStart => exact HS
  case round =>
    clear HS
    obtain ⟨i, ks, vs, hi, rfl, hki, hpos, hls, htwo, hrd, hbel⟩ := hrel
    have HL : Hid (Ls ks vs) := hls
    have HT : Hid (Two w.heap.size w.heap.size wr _ _ ks vs) := htwo
    have HR : Hid (RdM w.heap.size w.heap.size wr (w.heap.size + 1) (lk ks vs) ks.length) := hrd
    have HB : Hid (Below w.heap.size w wr) := hbel
    clear hls htwo hrd hbel
    by_cases hlt : i < pks.length
    · have h3 : (i : Int) < (pks.length : Int) := by omega
      obtain ⟨hK, hV, sK, sV⟩ := HP.out i hlt
      rw [← HB.out.cell (p := ⟨pb, po + i * 2, none⟩) (cell_lt hK)] at hK
      rw [← HB.out.cell (p := ⟨pb, po + i * 2 + 1, none⟩) (cell_lt hV)] at hV
      generalize pks.getD i e0 = K at hK sK
      generalize pvs.getD i e0 = V at hV sV
      go_wp2
      have hg1 := World.grownBy_alloc wr (.cells #[.string K, .string V] 34) none
      have hrA := HR.out.grown hg1 (by simp) (by simp)
      have htA := HT.out.new hg1
      have hbA := HB.out.alloc HB.out.size (.cells #[.string K, .string V] 34)
      have p0 : (wr.alloc (.cells #[.string K, .string V] 34)).cell? ⟨wr.heap.size, 0, none⟩ = some (.string K) := by simp
      have p1 : (wr.alloc (.cells #[.string K, .string V] 34)).cell? ⟨wr.heap.size, 1, none⟩ = some (.string V) := by simp
      have hszA : wr.heap.size < (wr.alloc (.cells #[.string K, .string V] 34)).heap.size := by simp
      have hpB : w.heap.size ≤ wr.heap.size := HB.out.size
      have hkp := HT.out.lt.1
      generalize wr.alloc (.cells #[.string K, .string V] 34) = wA at *
      generalize wr.heap.size = pp at *
      obtain ⟨wU, hrunU, hmapU, htU⟩ := MapAt.store (w := wA.drew) hrA.map sK sV (by unfold maxLen; omega)
      have c9A := hrA.c9
      go_region
      have hrD := hrA.grown (grown_drew wA) (by simp) (by simp)
      have htD := htA.new (grown_drew wA)
      have hrU := hrD.put hmapU htU
      have htwU := htD.grown htU.grown (fun g e => by cases e; exact ⟨own_ne_map htD.ok hrD.map, own_ne_map htD.ov hrD.map⟩)
      have hbU : Below w.heap.size w wU := hbA.drew.grown htU.grown hbA.size (fun k hk => by cases hk; omega)
      have q0 : wU.cell? ⟨pp, 0, none⟩ = some (.string K) := htU.grown.cell (w := wA.drew) p0 (by simpa using Ne.symm (hrA.map.ne p0))
      have q1 : wU.cell? ⟨pp, 1, none⟩ = some (.string V) := htU.grown.cell (w := wA.drew) p1 (by simpa using Ne.symm (hrA.map.ne p1))
      have hpU : pp < wU.heap.size := cell_lt q0
      clear p0 p1 hrA htA hrD htD hrunU hmapU htU c9A hbA hg1 hszA hK hV HT HR HB
      have HRU : Hid (RdM w.heap.size w.heap.size wU (w.heap.size + 1) (upd (lk ks vs) K V) (if (lk ks vs K).isSome = true then ks.length else ks.length + 1)) := hrU
      have HTU : Hid (Two w.heap.size w.heap.size wU u5 u6 ks vs) := htwU
      have HBU : Hid (Below w.heap.size w wU) := hbU
      clear hrU htwU hbU
      go_wp2_with (go_at_call 5; refine (find_any _ ks K wU (by omega) (own_holds HTU.out.ok)).mono ?_)
      rintro e w3 ⟨rfl, rfl⟩
      cases hp : posOf ks K with
      | none =>
        have hpi : posI ks K = -1 := by unfold posI; rw [hp]
        rw [hpi]
        have hrb : w.heap.size < w3.heap.size := HRU.out.lt
        have hisn : (lk ks vs K).isSome = false := by rw [lk_isSome HL.out.len, hp]; rfl
        have hownK := HTU.out.ok.alloc (.cells #[.string K] 9)
        have hl1 : ks.length + 1 ≤ maxLen := by unfold maxLen; omega
        have hl2 : (ks.length + 1) * 16 ≤ 140737488355328 := by omega
        have hb1 := lit_size w3 w.heap.size (.cells #[.string K] 9) (by omega)
        have hnw := lit_news w3 K
        have hon := lit_one K
        go_wp2_with (at_builtin; refine wpList_append_own_at _ rfl _ _ 23 rfl w.heap.size 9 i9 (.string ⟨#[]⟩) 1 16 Yba.underlying23 hi9 hz0 hz1 hz2 rfl (by decide) _ ks.length (ks.map Value.string) rfl hownK ⟨w3.heap.size, 0, none⟩ 1 1 [.string K] rfl rfl hnw hon hl1 hl2 hb1 ?_)
        intro kv' w4 hown4 hg4 hnil4 hat4
        have hT4 := HTU.out.pushK hrb hown4 hg4 hat4
        have hR4 := (HRU.out.grown (World.grownBy_alloc w3 (.cells #[.string K] 9) none) (by simp) (by simp)).own hownK HTU.out.kne hg4
        have hB4 : Below w.heap.size w w4 := (HBU.out.alloc (by omega) (.cells #[.string K] 9)).grown hg4 hb1 (fun k hk => (HTU.out.ok.lt k hk).1)
        have q4 : w4.cell? ⟨pp, 1, none⟩ = some (.string V) := hg4.cell (Lib.cell?_alloc_some _ q1) (fun e => Nat.lt_irrefl pp (hkp pp e.symm))
        have HT4 : Hid (Two w.heap.size w.heap.size w4 kv' u6 (ks ++ [K]) vs) := hT4
        have HR4 : Hid (RdM w.heap.size w.heap.size w4 (w.heap.size + 1) (upd (lk ks vs) K V) (if (lk ks vs K).isSome = true then ks.length else ks.length + 1)) := hR4
        have HB4 : Hid (Below w.heap.size w w4) := hB4
        clear hT4 hR4 hB4 hown4 hg4 hnil4 hat4 hownK hb1 hnw hon HTU HRU HBU q0 q1
        have hrb4 : w.heap.size < w4.heap.size := HR4.out.lt
        have hlv := HL.out.len
        have hownV := HT4.out.ov.alloc (.cells #[.string V] 9)
        have hl3 : vs.length + 1 ≤ maxLen := by unfold maxLen; omega
        have hl4 : (vs.length + 1) * 16 ≤ 140737488355328 := by omega
        clear hlv
        have hb2 := lit_size w4 w.heap.size (.cells #[.string V] 9) (by omega)
        have hnw2 := lit_news w4 V
        have hon2 := lit_one V
        go_wp2_with (at_builtin; refine wpList_append_own_at _ rfl _ _ 23 rfl w.heap.size 9 i9 (.string ⟨#[]⟩) 1 16 Yba.underlying23 hi9 hz0 hz1 hz2 rfl (by decide) _ vs.length (vs.map Value.string) rfl hownV ⟨w4.heap.size, 0, none⟩ 1 1 [.string V] rfl rfl hnw2 hon2 hl3 hl4 hb2 ?_)
        intro vv' w5 hown5 hg5 hnil5 hat5
        have hT5 := HT4.out.pushV hrb4 hown5 hg5 hat5
        have hR5 := (HR4.out.grown (World.grownBy_alloc w4 (.cells #[.string V] 9) none) (by simp) (by simp)).own hownV HT4.out.vne hg5
        have hB5 : Below w.heap.size w w5 := (HB4.out.alloc (by omega) (.cells #[.string V] 9)).grown hg5 hb2 (fun k hk => (HT4.out.ov.lt k hk).1)
        rw [hisn, ← lk_new HL.out.len hp] at hR5
        have HT5 : Hid (Two w.heap.size w.heap.size w5 kv' vv' (ks ++ [K]) (vs ++ [V])) := hT5
        have HR5 : Hid (RdM w.heap.size w.heap.size w5 (w.heap.size + 1) (lk (ks ++ [K]) (vs ++ [V])) (ks ++ [K]).length) := by
          rw [List.length_append]; exact hR5
        have HB5 : Hid (Below w.heap.size w w5) := hB5
        clear hT5 hR5 hB5 hown5 hg5 hnil5 hat5 hownV hb2 hnw2 hon2 HT4 HR4 HB4 q4
        go_wp2
        go_roundw
        case rel => exact ⟨i + 1, ks ++ [K], vs ++ [V], by omega, by go_num, by simp; omega, fun _ => by simp, HL.out.push hp sK sV, HT5.out, HR5.out, HB5.out⟩
        case measure => simp [intOf]; omega
      | some j =>
        have hpi : posI ks K = j := by unfold posI; rw [hp]
        rw [hpi]
        obtain ⟨hj, _⟩ := of_posOf_some hp
        have hlv := HL.out.len
        have hisn : (lk ks vs K).isSome = true := by rw [lk_isSome HL.out.len, hp]; rfl
        have hov := HTU.out.ov
        obtain ⟨g, cap, rfl, hcell⟩ : ∃ g cap, u6 = .slice (some ⟨g, 0, none⟩) vs.length cap ∧ ∀ j, j < vs.length → w3.cell? ⟨g, j, none⟩ = (vs.map Value.string)[j]? := by
          have h' := hov
          rcases hov.2 with ⟨_, h0⟩ | ⟨g, cap, cur, rfl, _⟩
          · omega
          · exact ⟨g, cap, rfl, fun j hj => h'.cellAt j (by omega)⟩
        have hc : w3.cell? ⟨g, j, none⟩ = some (.string (vs.getD j e0)) := by
          rw [hcell j (by omega)]
          simp [List.getD_eq_getElem?_getD, List.getElem?_eq_getElem (show j < vs.length by omega)]
        have hfz := hov.frozenAt j
        obtain ⟨hT5, hg5⟩ := HTU.out.setV (j := j) V
        have hR5 := HRU.out.own hov HTU.out.vne hg5
        have hB5 : Below w.heap.size w (w3.setCell ⟨g, j, none⟩ (.string V)) := HBU.out.setCell (hov.lt g rfl).1 _
        rw [hisn, ← lk_old hlv hp] at hR5
        have HT5 : Hid (Two w.heap.size w.heap.size (w3.setCell ⟨g, j, none⟩ (.string V)) u5 (.slice (some ⟨g, 0, none⟩) vs.length cap) ks (vs.set j V)) := hT5
        have HR5 : Hid (RdM w.heap.size w.heap.size (w3.setCell ⟨g, j, none⟩ (.string V)) (w.heap.size + 1) (lk ks (vs.set j V)) ks.length) := hR5
        have HB5 : Hid (Below w.heap.size w (w3.setCell ⟨g, j, none⟩ (.string V))) := hB5
        have hjv : (j : Int) < (vs.length : Int) := by omega
        have hj0 : ¬ (j : Int) < 0 := by omega
        clear hT5 hR5 hB5 hg5 hcell hov HTU HRU HBU hlv
        go_wp2
        go_roundw
        case rel => exact ⟨i + 1, ks, vs.set j V, by omega, by go_num, by omega, fun _ => by omega, HL.out.set j sV, HT5.out, HR5.out, HB5.out⟩
        case measure => simp [intOf]; omega
    · have h3 : ¬ (i : Int) < (pks.length : Int) := by omega
      have HS2 : Hid (Rel2 w qs.length u5 u6 (.int .i64 0) wr) := ⟨0, ks, vs, _, Nat.zero_le _, rfl, by omega, HL.out, HT.out, HR.out.rd (by omega), HB.out⟩
      clear HL HT HR HB HP hpos
      go_wp2
      go_loopw [5, 6, 74] (fun kv vv iv wr => Rel2 w qs.length kv vv iv wr) (fun _ _ iv _ => qs.length - (intOf iv).toNat)
      case atStart => exact HS2.out
      case round =>
        clear HS2
        obtain ⟨i, ks, vs, mv, hi, rfl, hki, hls, htwo, hrd, hbel⟩ := hrel
        have HL : Hid (Ls ks vs) := hls
        have HT : Hid (Two w.heap.size w.heap.size wr _ _ ks vs) := htwo
        have HR : Hid (Rd w.heap.size w.heap.size wr mv (lk ks vs) ks.length) := hrd
        have HB : Hid (Below w.heap.size w wr) := hbel
        clear hls htwo hrd hbel
        by_cases hlt : i < qs.length
        · have h3 : (i : Int) < (qs.length : Int) := by omega
          obtain ⟨ao, cq, hv, hs⟩ := HQ.out
          simp only [Value.slice.injEq, true_and] at hv
          obtain ⟨rfl, rfl⟩ := hv
          rcases hs with h0 | ⟨qb, qo, rfl, hs⟩
          · rw [h0] at hlt; simp at hlt
          have hcell := hs i hlt
          rw [← HB.out.cell (p := ⟨qb, qo + i, none⟩) (cell_lt hcell)] at hcell
          have hqz : (qs.getD i e0).size ≤ maxLen := by
            rw [List.getD_eq_getElem?_getD, List.getElem?_eq_getElem hlt]
            exact hqs _ (List.getElem_mem hlt)
          generalize qs.getD i e0 = q at hcell hqz
          obtain ⟨hr2, hc6, hsp⟩ := HR.out.str q
          have hconv := conv_bytes' wr q
          obtain ⟨v6, c6⟩ := (HR.out.later (below_bytes wr q)).c6
          have f6 := (HR.out.later (below_bytes wr q)).f6
          have HR2 : Hid (Rd w.heap.size w.heap.size (strWorld wr w.heap.size q) mv (lk ks vs) ks.length) := hr2
          have HC6 : Hid ((strWorld wr w.heap.size q).cell? ⟨w.heap.size, 6, none⟩ = some (.slice (some ⟨wr.heap.size, 0, none⟩) q.size (grownCap wr q.size 0 5))) := hc6
          have HSP : Hid (Spells (strWorld wr w.heap.size q) (.slice (some ⟨wr.heap.size, 0, none⟩) q.size (grownCap wr q.size 0 5)) q) := hsp
          have HB2 : Hid (Below w.heap.size w (strWorld wr w.heap.size q)) := HB.out.trans (str_below q (Nat.le_refl _) HB.out.size)
          have HT2 : Hid (Two w.heap.size w.heap.size (strWorld wr w.heap.size q) u5 u6 ks vs) := HT.out.str q
          have hkp : ∀ g, u5.ownBlock = some g → g < wr.heap.size := HT.out.lt.1
          have hvp : ∀ g, u6.ownBlock = some g → g < wr.heap.size := HT.out.lt.2
          clear hr2 hc6 hsp HT HR HB hs
          go_wp2_with (go_at_call 6; refine (intern_any w.heap.size w.heap.size _ mv q (lk ks vs) ks.length _ hqz HR2.out HSP.out HC6.out HB2.out.size).mono ?_)
          rintro e w2 ⟨rfl, mv', hrd', hkeep⟩
          have hc6' := hkeep.cell _ _ (by simp) HC6.out
          have hsp' := HSP.out.later (w' := w2) (fun a u ha => hkeep.cell a _ (fun e => by rw [e, HR2.out.c9] at ha; cases ha; rcases HR2.out.map with ⟨h, _⟩ | ⟨_, h, _⟩ <;> cases h) ha)
          have HT3 : Hid (Two w.heap.size w.heap.size w2 u5 u6 ks vs) := HT2.out.keeps hkeep
          have HB3 : Hid (Below w.heap.size w w2) := HB2.out.trans hkeep.below
          have HR3 : Hid (Rd w.heap.size w.heap.size w2 mv' (nextF (lk ks vs) ks.length q) (nextSz (lk ks vs) ks.length q)) := hrd'
          have HSP3 : Hid (Spells w2 (.slice (some ⟨wr.heap.size, 0, none⟩) q.size (grownCap wr q.size 0 5)) q) := hsp'
          clear hrd' hkeep hsp' HR2 HC6 HSP HB2 HT2 hconv c6 f6 hcell
          generalize hsb : wr.heap.size = sb at *
          generalize grownCap wr q.size 0 5 = scap at *
          go_wp2_with (go_at_call 5; refine (find_any _ ks q w2 (by omega) (own_holds HT3.out.ok)).mono ?_)
          rintro e w3 ⟨rfl, rfl⟩
          cases hp : posOf ks q with
          | some j =>
            obtain ⟨hj, _⟩ := of_posOf_some hp
            have hlv := HL.out.len
            have hpi : posI ks q = j := by unfold posI; rw [hp]
            have hlkq : lk ks vs q = some (vs.getD j e0) := by
              unfold lk
              rw [hp, Option.bind_some, List.getElem?_eq_getElem (by omega), List.getD_eq_getElem?_getD, List.getElem?_eq_getElem (by omega)]
              rfl
            have hyes : (lk ks vs q).isSome = true ∨ 256 ≤ ks.length := .inl (by rw [hlkq]; rfl)
            have hnf : nextF (lk ks vs) ks.length q = lk ks vs := by unfold nextF; rw [if_pos hyes]
            have hns : nextSz (lk ks vs) ks.length q = ks.length := by unfold nextSz; rw [if_pos hyes]
            have hgot : (lk ks vs q).getD q = vs.getD j e0 := by rw [hlkq]; rfl
            simp only [hpi, hgot]
            have hov := HT3.out.ov
            obtain ⟨g, cap, rfl, hcell⟩ : ∃ g cap, u6 = .slice (some ⟨g, 0, none⟩) vs.length cap ∧ ∀ j, j < vs.length → w3.cell? ⟨g, j, none⟩ = (vs.map Value.string)[j]? := by
              have h' := hov
              rcases hov.2 with ⟨_, h0⟩ | ⟨g, cap, cur, rfl, _⟩
              · omega
              · exact ⟨g, cap, rfl, fun j hj => h'.cellAt j (by omega)⟩
            have hc : w3.cell? ⟨g, j, none⟩ = some (.string (vs.getD j e0)) := by
              rw [hcell j (by omega)]
              simp [List.getD_eq_getElem?_getD, List.getElem?_eq_getElem (show j < vs.length by omega)]
            have hcv := HSP3.out.conv
            rw [hnf, hns] at HR3
            have hjv : (j : Int) < (vs.length : Int) := by omega
            have hj0 : (0 : Int) ≤ (j : Int) := by omega
            clear hlv hov hcell hnf hns hlkq hyes hgot
            generalize vs.getD j e0 = x at *
            go_wp2
            go_roundw
            case rel => exact ⟨i + 1, ks, vs, mv', by omega, by go_num, by omega, HL.out, HT3.out, HR3.out, HB3.out⟩
            case measure => simp [intOf]; omega
          | none =>
            have hpi : posI ks q = -1 := by unfold posI; rw [hp]
            have hlkq : lk ks vs q = none := by unfold lk; rw [hp]; rfl
            have hgot : (lk ks vs q).getD q = q := by rw [hlkq]; rfl
            simp only [hpi, hgot]
            have hown := HT3.out.ok
            obtain ⟨ao, kcap, rfl, _⟩ := own_holds HT3.out.ok
            by_cases h256 : ks.length < 256
            · have h256' : (ks.length : Int) < 256 := by omega
              have hno : ¬ ((lk ks vs q).isSome = true ∨ 256 ≤ ks.length) := by rw [hlkq]; simp; omega
              have hnf : nextF (lk ks vs) ks.length q = lk (ks ++ [q]) (vs ++ [q]) := by unfold nextF; rw [if_neg hno, lk_new HL.out.len hp]
              have hns : nextSz (lk ks vs) ks.length q = (ks ++ [q]).length := by unfold nextSz; rw [if_neg hno, List.length_append]; rfl
              rw [hnf, hns] at HR3
              have hrb : w.heap.size < w3.heap.size := HR3.out.lt
              have hownK := hown.alloc (.cells #[.string q] 9)
              have hl1 : ks.length + 1 ≤ maxLen := by unfold maxLen; omega
              have hl2 : (ks.length + 1) * 16 ≤ 140737488355328 := by omega
              have hb1 := lit_size w3 w.heap.size (.cells #[.string q] 9) (by omega)
              have hnw := lit_news w3 q
              have hon := lit_one q
              clear hno hnf hns hgot hlkq
              go_wp2_with (at_builtin; refine wpList_append_own_at _ rfl _ _ 23 rfl w.heap.size 9 i9 (.string ⟨#[]⟩) 1 16 Yba.underlying23 hi9 hz0 hz1 hz2 rfl (by decide) _ ks.length (ks.map Value.string) rfl hownK ⟨w3.heap.size, 0, none⟩ 1 1 [.string q] rfl rfl hnw hon hl1 hl2 hb1 ?_)
              intro kv' w4 hown4 hg4 hnil4 hat4
              have hT4 := HT3.out.pushK hrb hown4 hg4 hat4
              have hga := World.grownBy_alloc w3 (.cells #[.string q] 9) none
              have hR4 := (HR3.out.grown hga (by simp) (fun _ _ => by simp)).own hownK HT3.out.kne hg4
              have hB4 : Below w.heap.size w w4 := (HB3.out.alloc (by omega) (.cells #[.string q] 9)).grown hg4 hb1 (fun k hk => (hown.lt k hk).1)
              have hs4 := (HSP3.out.grownAt hga (by simp)).grownAt hg4 (fun e => Nat.lt_irrefl sb (hkp sb e.symm))
              have hc4 : w4.cell? ⟨w.heap.size, 6, none⟩ = some (.slice (some ⟨sb, 0, none⟩) q.size scap) := hg4.cell (hga.cell hc6' (by simp)) (Ne.symm HT3.out.kne)
              have HT4 : Hid (Two w.heap.size w.heap.size w4 kv' u6 (ks ++ [q]) vs) := hT4
              have HR4 : Hid (Rd w.heap.size w.heap.size w4 mv' (lk (ks ++ [q]) (vs ++ [q])) (ks ++ [q]).length) := hR4
              have HB4 : Hid (Below w.heap.size w w4) := hB4
              have HS4 : Hid (Spells w4 (.slice (some ⟨sb, 0, none⟩) q.size scap) q) := hs4
              clear hT4 hR4 hB4 hs4 hown4 hg4 hnil4 hat4 hownK hb1 hnw hon HT3 HR3 HB3 HSP3 hga hown hc6'
              have hrb4 : w.heap.size < w4.heap.size := HR4.out.lt
              have hlv := HL.out.len
              have hownV := HT4.out.ov.alloc (.cells #[.string q] 9)
              have hl3 : vs.length + 1 ≤ maxLen := by unfold maxLen; omega
              have hl4 : (vs.length + 1) * 16 ≤ 140737488355328 := by omega
              clear hlv
              have hb2 := lit_size w4 w.heap.size (.cells #[.string q] 9) (by omega)
              have hnw2 := lit_news w4 q
              have hon2 := lit_one q
              go_wp2_with (at_builtin; refine wpList_append_own_at _ rfl _ _ 23 rfl w.heap.size 9 i9 (.string ⟨#[]⟩) 1 16 Yba.underlying23 hi9 hz0 hz1 hz2 rfl (by decide) _ vs.length (vs.map Value.string) rfl hownV ⟨w4.heap.size, 0, none⟩ 1 1 [.string q] rfl rfl hnw2 hon2 hl3 hl4 hb2 ?_)
              intro vv' w5 hown5 hg5 hnil5 hat5
              have hT5 := HT4.out.pushV hrb4 hown5 hg5 hat5
              have hga := World.grownBy_alloc w4 (.cells #[.string q] 9) none
              have hR5 := (HR4.out.grown hga (by simp) (fun _ _ => by simp)).own hownV HT4.out.vne hg5
              have hB5 : Below w.heap.size w w5 := (HB4.out.alloc (by omega) (.cells #[.string q] 9)).grown hg5 hb2 (fun k hk => (HT4.out.ov.lt k hk).1)
              have hs5 := (HS4.out.grownAt hga (by simp)).grownAt hg5 (fun e => Nat.lt_irrefl sb (hvp sb e.symm))
              have hc5 : w5.cell? ⟨w.heap.size, 6, none⟩ = some (.slice (some ⟨sb, 0, none⟩) q.size scap) := hg5.cell (hga.cell hc4 (by simp)) (Ne.symm HT4.out.vne)
              have hcv := hs5.conv
              have HT5 : Hid (Two w.heap.size w.heap.size w5 kv' vv' (ks ++ [q]) (vs ++ [q])) := hT5
              have HR5 : Hid (Rd w.heap.size w.heap.size w5 mv' (lk (ks ++ [q]) (vs ++ [q])) (ks ++ [q]).length) := hR5
              have HB5 : Hid (Below w.heap.size w w5) := hB5
              clear hT5 hR5 hB5 hs5 hown5 hg5 hnil5 hat5 hownV hb2 hnw2 hon2 HT4 HR4 HB4 HS4 hga hc4
              go_wp2
              go_roundw
              case rel => exact ⟨i + 1, ks ++ [q], vs ++ [q], mv', by omega, by go_num, by simp; omega, HL.out.push hp hqz hqz, HT5.out, HR5.out, HB5.out⟩
              case measure => simp [intOf]; omega
            · have h256' : ¬ (ks.length : Int) < 256 := by omega
              have hyes : (lk ks vs q).isSome = true ∨ 256 ≤ ks.length := .inr (by omega)
              have hnf : nextF (lk ks vs) ks.length q = lk ks vs := by unfold nextF; rw [if_pos hyes]
              have hns : nextSz (lk ks vs) ks.length q = ks.length := by unfold nextSz; rw [if_pos hyes]
              rw [hnf, hns] at HR3
              have hcv := HSP3.out.conv
              clear hyes hnf hns hgot hlkq hown
              go_wp2
              go_roundw
              case rel => exact ⟨i + 1, ks, vs, mv', by omega, by go_num, by omega, HL.out, HT3.out, HR3.out, HB3.out⟩
              case measure => simp [intOf]; omega
        · have h3 : ¬ (i : Int) < (qs.length : Int) := by omega
          have c9 := HR.out.c9
          have hlen := fun ty => HR.out.map.len ty
          have hnil := fun w' => HR.out.map.nil (w' := w')
          by_cases h0 : ks.length = 0
          · obtain rfl := List.eq_nil_of_length_eq_zero h0
            obtain ⟨ao, kcap, rfl, _⟩ := own_holds HT.out.ok
            have hnil' : ∀ w', (binOp .eql 28 mv (.map none)).run Yba.prog w' = .ok (.bool true) w' := hnil
            have hlen' : ∀ ty, (Builtin.len_ #[28] ty #[mv]).run Yba.prog wr = .ok (.int .i64 0) wr := hlen
            clear hnil hlen
            simp only [List.length_nil]
            go_wp2
            refine wp_loop_rounds 1 ?_
            rw [rounds_succ]
            go_wp2
            go_ret
            exact ⟨rfl, HB.out⟩
          · have h0' : ((ks.length : Int) == 0) = false := beq_eq_false_iff_ne.2 (by omega)
            have h0'' : (ks.length == 0) = false := beq_eq_false_iff_ne.2 h0
            rw [h0''] at hnil
            have hlv := HL.out.len
            obtain ⟨kg, kcap, rfl⟩ := own_at HT.out.ok (by omega)
            obtain ⟨vg, vcap, rfl⟩ := own_at HT.out.ov (by omega)
            have HS3 : Hid (Rel3 w (.slice (some ⟨kg, 0, none⟩) ks.length kcap) (.slice (some ⟨vg, 0, none⟩) vs.length vcap) mv ks vs (.int .i64 0) wr) := ⟨0, Nat.zero_le _, rfl, HT.out, HR.out, HB.out⟩
            clear h0'' HT HR HB hlv
            go_wp2
            clear c9 hlen hnil
            go_loopw [16] (fun iv wr => Rel3 w (.slice (some ⟨kg, 0, none⟩) ks.length kcap) (.slice (some ⟨vg, 0, none⟩) vs.length vcap) mv ks vs iv wr) (fun iv _ => ks.length - (intOf iv).toNat)
            case atStart => exact HS3.out
            case round =>
              clear HS3
              obtain ⟨i, hi, rfl, htwo, hrd, hbel⟩ := hrel
              have HT : Hid (Two w.heap.size w.heap.size wr (.slice (some ⟨kg, 0, none⟩) ks.length kcap) (.slice (some ⟨vg, 0, none⟩) vs.length vcap) ks vs) := htwo
              have HR : Hid (Rd w.heap.size w.heap.size wr mv (lk ks vs) ks.length) := hrd
              have HB : Hid (Below w.heap.size w wr) := hbel
              clear htwo hrd hbel
              by_cases hlt : i < ks.length
              · have h4 : (i : Int) < (ks.length : Int) := by omega
                have hlv := HL.out.len
                have h5 : (i : Int) < (vs.length : Int) := by omega
                have hkc := own_cell HT.out.ok hlt
                have hvc := own_cell HT.out.ov (j := i) (by omega)
                obtain ⟨hat, hsz⟩ := lk_at HL.out hlt
                have hlook : ∀ m, (Instr.lookup 28 mv (.string (ks.getD i e0)) true).run Yba.prog (wr.drewN m) = .ok (.tuple #[.string (vs.getD i e0), .bool true]) (wr.drewN m) := fun m => by
                  have := (HR.out.grown (grown_drewN wr m) (by simp) (fun _ _ => by simp)).map.look hsz
                  rw [hat] at this
                  exact this
                have c9 := HR.out.c9
                clear hlv hat hsz
                generalize ks.getD i e0 = kk at *
                generalize vs.getD i e0 = vk at *
                go_wp2
                go_quiet (fail)
                go_wp2
                go_roundw
                case rel => exact ⟨i + 1, by omega, by go_num, HT.out.new (grown_drewN wr _), HR.out.grown (grown_drewN wr _) (by simp) (fun _ _ => by simp), below_drewN HB.out _⟩
                case measure => simp [intOf]; omega
              · have h4 : ¬ (i : Int) < (ks.length : Int) := by omega
                go_wp2
                go_ret
                exact ⟨rfl, HB.out⟩

end Go.Proofs.Ybulkchsq
