/-
  THE SEAT b4185aD: ledger.accept (8).
-/
import Derived.Test.YbulkchqmDoorRec
import Derived.Deep.RegionWith
import Derived.Deep.RegionHeld3
namespace Go.Proofs.YbulkchqmDoor
open Go.RowKit Go.Maps
set_option linter.unusedVariables false

/-- A SLICE AS THE LAW HANDS IT ON: no number and nil, or some in a row. -/
def RowI (w : World) (k : IntKind) (v : Value) (xs : List Int) : Prop :=
  (v = .slice none 0 0 ∧ xs = []) ∨ (0 < xs.length ∧ ∃ b off cap, v = .slice (some ⟨b, off, none⟩) xs.length cap ∧ ∀ j, j < xs.length → w.cell? ⟨b, off + j, none⟩ = some (.int k (xs.getD j 0)))

theorem RowI.holds {w : World} {k : IntKind} {v : Value} {xs : List Int} (h : RowI w k v xs) : HoldsI w k v xs := by
  rcases h with ⟨rfl, rfl⟩ | ⟨hpos, b, off, cap, rfl, hc⟩
  · exact ⟨_, _, rfl, .inl rfl⟩
  · exact ⟨_, _, rfl, .inr ⟨b, off, rfl, hc⟩⟩

/-- it reads the same wherever its cells do. -/
theorem RowI.same {w w' : World} {k : IntKind} {v : Value} {xs : List Int} (h : RowI w k v xs) (hs : ∀ b o q, w.cell? ⟨b, o, none⟩ = some (.int k q) → w'.cell? ⟨b, o, none⟩ = some (.int k q)) : RowI w' k v xs := by
  rcases h with h | ⟨hpos, b, off, cap, rfl, hc⟩
  · exact .inl h
  · exact .inr ⟨hpos, b, off, cap, rfl, fun j hj => hs _ _ _ (hc j hj)⟩

theorem allBut_any (id nn h k' hh : Int) (rule : ByteArray) (v : Value) (x : Int) (xs K : List Int) (hK : keepTo xs x xs.length = K) (w : World) (hn : xs.length ≤ 100000) (hv : RowI w .i64 v xs) :
    Calls Ybad.prog 14 #[.agg #[.int .i64 id, .int .i64 nn, v, .string rule, .int .i64 k', .int .i64 hh, .int .i64 h], .int .i64 x] w fun e w' =>
      ∃ ao cap, e = .returned (.slice ao K.length cap) ∧ Hid (K = [] ∨ ∃ g, ao = some ⟨g, 0, none⟩ ∧ w.heap.size ≤ g ∧ ∀ j, j < K.length → w'.cell? ⟨g, 0 + j, none⟩ = some (.int .i64 (K.getD j 0))) ∧ Below w.heap.size w w' := by
  subst hK
  rcases hv with ⟨rfl, rfl⟩ | ⟨hpos, b, off, cap, rfl, hc⟩
  · refine (allBut_nil id nn h k' hh rule x w).mono ?_
    rintro e w' ⟨rfl, hb⟩
    exact ⟨none, 0, rfl, .inl rfl, hb⟩
  · refine (allBut_some id nn h k' hh rule b off cap xs.length x xs w hn hpos rfl hc).mono ?_
    rintro e w' ⟨v, rfl, hh, hb, hform⟩
    obtain ⟨ao, cp, rfl, h2⟩ := hh
    obtain ⟨g, m, c, hv, hg⟩ := hform
    cases hv
    refine ⟨_, cp, rfl, ?_, hb⟩
    rcases h2 with h2 | ⟨b, o, hbo, h2⟩
    · exact .inl h2
    · cases hbo
      exact .inr ⟨g, rfl, hg, h2⟩

theorem wire_length (src : Int) (msg : List Int) : (wire src msg).length = msg.length + 6 := by simp [wire]

theorem encode_any (src : Int) (b m : Nat) (v : Value) (msg : List Int) (w : World) (hm : m ≤ 1024) (hset : ∀ j, j < m → w.cell? ⟨b, j, none⟩ = some (.int .u64 0)) (hlm : msg.length ≤ 4096) (hv : RowI w .u8 v msg) :
    Calls Ybad.prog 16 #[.agg #[.int .i64 src, v, .slice (some ⟨b, 0, none⟩) m m]] w fun e w' =>
      ∃ pb pc : Nat, e = .returned (.slice (some ⟨pb, 0, none⟩) (wire src msg).length pc) ∧ w.heap.size ≤ pb ∧ (∀ j, j < (wire src msg).length → w'.cell? ⟨pb, 0 + j, none⟩ = some (.int .u8 ((wire src msg).getD j 0))) ∧ Below w.heap.size w w' := by
  have key : Calls Ybad.prog 16 #[.agg #[.int .i64 src, v, .slice (some ⟨b, 0, none⟩) m m]] w fun e w' => ∃ v, e = .returned v ∧ w'.ownsRow w.heap.size 5 1 v (wire src msg).length ((wire src msg).map (Value.int .u8)) ∧ Below w.heap.size w w' := by
    rw [wire_length]
    rcases hv with ⟨rfl, rfl⟩ | ⟨hpos, mb, mo, cm, rfl, hc⟩
    · exact encode_nil src b m w hm hset
    · exact encode_some src b m mb mo msg.length cm msg w hm hset hlm rfl hc
  refine key.mono ?_
  rintro e w' ⟨v, rfl, hown, hb⟩
  obtain ⟨g, cap, rfl, hg, _, _, _, hc, _⟩ := own_pos hown (by rw [wire_length]; omega)
  exact ⟨g, cap, rfl, hg, fun j hj => by rw [Nat.zero_add]; exact hc j hj, hb⟩

/-- WHAT accept LEAVES, but for the sender. -/
def Kept (w w' : World) (lb mb sb : Nat) (src now : Int) (msg : List Int) : Prop :=
  ∃ g c : Nat, w'.cell? ⟨lb, 9, none⟩ = some (.slice (some ⟨g, 0, none⟩) 1 c) ∧ w'.cell? ⟨g, 0, none⟩ = some (.int .i64 src) ∧ w'.cell? ⟨g, 1, none⟩ = some (.string (strOfNums msg)) ∧ w'.cell? ⟨g, 2, none⟩ = some (.int .i64 now) ∧
    w'.ownsMap (H := Unit) Ybad.prog 3 (plainElem Ybad.prog 4) mb 1 ((DataW.map []).put (.int .i64 src) (.lit (.bool true))) ∧
    (∀ j, j ≠ 9 → w'.cell? ⟨lb, j, none⟩ = w.cell? ⟨lb, j, none⟩) ∧ w.heap.size ≤ w'.heap.size ∧ w'.tape = w.tape ∧ w'.os = w.os ∧ w'.output = w.output ∧ (∀ k, k < w.heap.size → k ≠ lb → k ≠ mb → k ≠ sb → w'.heap[k]? = w.heap[k]?)

/-- from record's world on: whatever grows and turns the sender alone. -/
theorem kept_of {w w1 w2 : World} {o : Obj} {lb mb sb : Nat} {src now : Int} {msg : List Int} (hrec : Recorded (w.alloc o) w1 lb mb src now msg) (hlt : lb < w.heap.size) (hlsb : lb ≠ sb) (hms : mb ≠ sb) (hml : mb < w.heap.size) (hsb : sb < w.heap.size) (hg : w1.grownBy w2 (some sb)) : Kept w w2 lb mb sb src now msg := by
  obtain ⟨g, c, r9, rg0, rg1, rg2, hgs, hown, hlc, hlf, hsz, htape, hos, hout, hblk⟩ := hrec
  rw [World.size_alloc] at hgs hsz
  have hgne : some g ≠ some sb := by simp; omega
  have hlne : some lb ≠ some sb := by simpa using hlsb
  refine ⟨g, c, hg.cell r9 hlne, hg.cell rg0 hgne, hg.cell rg1 hgne, hg.cell rg2 hgne, hown.kept hg (by simpa using hms), fun j hj => ?_, by have := hg.size; omega, hg.tape.trans htape, hg.os.trans hos, hg.output.trans hout, fun k h1 h2 h3 h4 => ?_⟩
  · rw [World.cell?_of_block (a := ⟨lb, j, none⟩) (hg.block lb (by omega) hlne), hlc j hj]
    exact World.cell?_of_block (a := ⟨lb, j, none⟩) (Below.heap_alloc w o lb hlt)
  · rw [hg.block k (by omega) (by simpa using h4), hblk k (by simp; omega) h2 h3]
    exact Below.heap_alloc w o k h1

@[go_sem] theorem nil_ahead (a : Addr) (w : World) : (nilAhead 357 38 (.pointer (some a)) "Send").run Ybad.prog w = .ok (some false) w := by kernel_rfl
@[go_sem] theorem method_send (a : Addr) (w : World) : (method 357 38 (.pointer (some a)) "Send").run Ybad.prog w = .ok (53, .pointer (some a)) w := by kernel_rfl

/-- the sender's three cells behind one Send, in the world as it stands. -/
def SentIn (w' : World) (sb : Nat) (ps ts : List Int) : Prop :=
  ∃ g1 c1 g2 c2 : Nat, w'.cell? ⟨sb, 0, none⟩ = some (.int .i64 1) ∧ w'.cell? ⟨sb, 1, none⟩ = some (.slice (some ⟨g1, 0, none⟩) ps.length c1) ∧ w'.cell? ⟨sb, 2, none⟩ = some (.slice (some ⟨g2, 0, none⟩) ts.length c2) ∧
    (∀ j, j < ps.length → w'.cell? ⟨g1, j, none⟩ = some (.int .u8 (ps.getD j 0))) ∧ (∀ j, j < ts.length → w'.cell? ⟨g2, j, none⟩ = some (.int .i64 (ts.getD j 0)))

theorem grown_chain {w1 w2 w4 w5 : World} {sb : Nat} (h1 : Below w1.heap.size w1 w2) (h2 : Below w2.heap.size w2 w4) (h3 : w4.grownBy w5 (some sb)) : w1.grownBy w5 (some sb) :=
  ⟨h3.os.trans (h2.os.trans h1.os), h3.tape.trans (h2.tape.trans h1.tape), h3.output.trans (h2.output.trans h1.output), Nat.le_trans h1.size (Nat.le_trans h2.size h3.size), fun k hk hne => (h3.block k (Nat.lt_of_lt_of_le hk (Nat.le_trans h1.size h2.size)) hne).trans ((h2.block k (Nat.lt_of_lt_of_le hk h1.size)).trans (h1.block k hk))⟩

theorem sent_keeps {w4 w5 : World} {sb B lb : Nat} {ps ts : List Int} {u v x : Value} (h : Sent w4 w5 sb ps ts) (hB : B ≠ sb) (hl : lb ≠ sb) (hS : w4.cell? ⟨B, 0, none⟩ = some u ∧ w4.cell? ⟨B, 1, none⟩ = some v ∧ w4.cell? ⟨lb, 1, none⟩ = some x) :
    w5.cell? ⟨B, 0, none⟩ = some u ∧ w5.cell? ⟨B, 1, none⟩ = some v ∧ w5.cell? ⟨lb, 1, none⟩ = some x := by
  obtain ⟨g1, c1, g2, c2, q0, q1, q2, q3, q4, hg⟩ := h
  exact ⟨hg.cell hS.1 (by simpa using hB), hg.cell hS.2.1 (by simpa using hB), hg.cell hS.2.2 (by simpa using hl)⟩

theorem below_drew {B : Nat} {w w' : World} (h : Below B w.drew w') : Below B w w' := ⟨h.os, h.tape, h.output, h.size, h.block⟩

set_option maxHeartbeats 1000000 in
theorem accept_some (lb mb sb : Nat) (src now id : Int) (n : Nat) (nbo : Option Addr) (ln cn : Nat) (ao so : Option Addr) (lm cm ls cs : Nat) (msg xs : List Int) (w : World) (wsrc : (Lit.int .i64 src).wf = true) (hlb : lb ≠ mb) (hls : lb ≠ sb)
    (hn : n ≤ 65535) (hxs : xs.length ≤ 100000) (hlm : msg.length ≤ 4096) (K : List Int) (hK : keepTo xs src xs.length = K) (hpos : 0 < K.length) (hKl : K.length ≤ 100000)
    (l0 : w.cell? ⟨lb, 0, none⟩ = some (.int .i64 id)) (l1 : w.cell? ⟨lb, 1, none⟩ = some (.int .i64 n)) (l2 : w.cell? ⟨lb, 2, none⟩ = some (.slice nbo ln cn)) (l3 : w.cell? ⟨lb, 3, none⟩ = some (.string ⟨#[]⟩)) (l4 : w.cell? ⟨lb, 4, none⟩ = some (.int .i64 0)) (l5 : w.cell? ⟨lb, 5, none⟩ = some (.int .i64 0)) (l6 : w.cell? ⟨lb, 6, none⟩ = some (.int .i64 0))
    (l8 : w.cell? ⟨lb, 8, none⟩ = some (.map (some mb))) (l9 : w.cell? ⟨lb, 9, none⟩ = some (.slice none 0 0)) (f9 : w.frozen? ⟨lb, 9, none⟩ = false)
    (hmap : w.ownsMap (H := Unit) Ybad.prog 3 (plainElem Ybad.prog 4) mb 0 (.map [])) (hmsg : RowI w .u8 (.slice ao lm cm) msg) (hnb : RowI w .i64 (.slice nbo ln cn) xs)
    (s0 : w.cell? ⟨sb, 0, none⟩ = some (.int .i64 0)) (s1 : w.cell? ⟨sb, 1, none⟩ = some (.slice none 0 0)) (s2 : w.cell? ⟨sb, 2, none⟩ = some (.slice none 0 0)) (z0 : w.frozen? ⟨sb, 0, none⟩ = false) (z1 : w.frozen? ⟨sb, 1, none⟩ = false) (z2 : w.frozen? ⟨sb, 2, none⟩ = false) :
    Calls Ybad.prog 8 #[.pointer (some ⟨lb, 0, none⟩), .int .i64 now, .agg #[.int .i64 src, .slice ao lm cm, .slice so ls cs], .iface 38 (.pointer (some ⟨sb, 0, none⟩))] w fun e w' =>
      e = .returned (.tuple #[]) ∧ Kept w w' lb mb sb src now msg ∧ SentIn w' sb (wire src msg) K := by
  have hlt : lb < w.heap.size := World.block_lt_of_cell? _ _ l8
  have HRR : Hid (Calls Ybad.prog 13 #[.pointer (some ⟨lb, 0, none⟩), .int .i64 now, .agg #[.int .i64 src, .slice ao lm cm, .slice so ls cs]] (w.alloc (.cells #[.int .i64 src, .slice ao lm cm, .slice so ls cs] 43)) fun e w' =>
      e = .returned (.tuple #[]) ∧ Recorded (w.alloc (.cells #[.int .i64 src, .slice ao lm cm, .slice so ls cs] 43)) w' lb mb src now msg) :=
    record_any lb mb src now ao so lm cm ls cs msg _ wsrc hlb (Lib.cell?_alloc_some _ l8) (Lib.cell?_alloc_some _ l9) ((World.frozen?_of_block (a := ⟨lb, 9, none⟩) (Below.heap_alloc w _ lb hlt)).trans f9) (hmap.alloc _) (holds_kept (row := none) hmsg.holds (World.grownBy_alloc _ _ none) (by intro b hb; simp))
  go_enter Ybad.func8, Ybad.ntmps8
  go_wp2_with (go_at_call 13; refine (Calls.mono HRR.out ?_))
  rintro e w1 ⟨rfl, hrec⟩
  have HREC := hrec
  obtain ⟨g, c, r9, rg0, rg1, rg2, hg, hown, hlc, hlf, hsz, htape, hos, hout, hblk⟩ := hrec
  have m0 : w1.cell? ⟨lb, 0, none⟩ = some (.int .i64 id) := (hlc 0 (by omega)).trans (Lib.cell?_alloc_some _ l0)
  have m1 : w1.cell? ⟨lb, 1, none⟩ = some (.int .i64 n) := (hlc 1 (by omega)).trans (Lib.cell?_alloc_some _ l1)
  have m2 : w1.cell? ⟨lb, 2, none⟩ = some (.slice nbo ln cn) := (hlc 2 (by omega)).trans (Lib.cell?_alloc_some _ l2)
  have m3 : w1.cell? ⟨lb, 3, none⟩ = some (.string ⟨#[]⟩) := (hlc 3 (by omega)).trans (Lib.cell?_alloc_some _ l3)
  have m4 : w1.cell? ⟨lb, 4, none⟩ = some (.int .i64 0) := (hlc 4 (by omega)).trans (Lib.cell?_alloc_some _ l4)
  have m5 : w1.cell? ⟨lb, 5, none⟩ = some (.int .i64 0) := (hlc 5 (by omega)).trans (Lib.cell?_alloc_some _ l5)
  have m6 : w1.cell? ⟨lb, 6, none⟩ = some (.int .i64 0) := (hlc 6 (by omega)).trans (Lib.cell?_alloc_some _ l6)
  have t0 : w1.cell? ⟨w.heap.size, 0, none⟩ = some (.int .i64 src) := (World.cell?_of_block (a := ⟨w.heap.size, 0, none⟩) (hblk w.heap.size (by simp) (by omega) (by have := hmap.lt; omega))).trans (by simp)
  have t1 : w1.cell? ⟨w.heap.size, 1, none⟩ = some (.slice ao lm cm) := (World.cell?_of_block (a := ⟨w.heap.size, 1, none⟩) (hblk w.heap.size (by simp) (by omega) (by have := hmap.lt; omega))).trans (by simp)
  have hsamei : ∀ k b o q, w.cell? ⟨b, o, none⟩ = some (.int k q) → w1.cell? ⟨b, o, none⟩ = some (.int k q) := fun k b o q ha => by
    have h1 : b < w.heap.size := World.block_lt_of_cell? _ _ ha
    have h2 : b ≠ mb := cell_not_map hmap ha
    have h3 : (w.alloc (.cells #[.int .i64 src, .slice ao lm cm, .slice so ls cs] 43)).cell? ⟨b, o, none⟩ = some (.int k q) := Lib.cell?_alloc_some _ ha
    by_cases hbl : b = lb
    · subst hbl
      have h9 : o ≠ 9 := fun e => by subst e; rw [l9] at ha; cases ha
      rw [hlc o h9]; exact h3
    · rw [World.cell?_of_block (a := ⟨b, o, none⟩) (hblk b (by simp; omega) hbl h2)]; exact h3
  have hsb1 : ∀ o u, w.cell? ⟨sb, o, none⟩ = some u → w1.cell? ⟨sb, o, none⟩ = some u := fun o u ha => by
    have h1 : sb < w.heap.size := World.block_lt_of_cell? _ _ ha
    have h2 : sb ≠ mb := cell_not_map hmap ha
    rw [World.cell?_of_block (a := ⟨sb, o, none⟩) (hblk sb (by simp; omega) (fun e => hls e.symm) h2)]
    exact Lib.cell?_alloc_some _ ha
  have hnb1 : RowI w1.drew .i64 (.slice nbo ln cn) xs := hnb.same (hsamei _)
  have hmsg1 : RowI w1 .u8 (.slice ao lm cm) msg := hmsg.same (hsamei _)
  have hsbl : sb < w.heap.size := World.block_lt_of_cell? _ _ s0
  have hsbm : sb ≠ mb := cell_not_map hmap s0
  have hsbk : w1.heap[sb]? = w.heap[sb]? := (hblk sb (by simp; omega) (fun e => hls e.symm) hsbm).trans (Below.heap_alloc w _ sb hsbl)
  have hw1 : w.heap.size ≤ w1.heap.size := by rw [World.size_alloc] at hsz; omega
  have HKEPT : Hid (∀ w2, w1.grownBy w2 (some sb) → Kept w w2 lb mb sb src now msg) := fun w2 hg => kept_of HREC hlt hls (fun e => hsbm e.symm) hmap.lt hsbl hg
  clear r9 rg0 rg1 rg2 hg hown hlc hlf hsz htape hos hout hblk HREC hsamei hsb1
  go_wp2
  go_region_with (go_at_call 14; refine (allBut_any _ _ _ _ _ _ _ _ xs K hK _ hxs hnb1).mono ?_; rintro e w2 ⟨ao2, cap2, rfl, hh2, hb2⟩)
  all_goals
    have hb2' : Below w1.heap.size w1 w2 := below_drew hb2
    obtain ⟨tb, rfl, htb, hct⟩ : ∃ g, ao2 = some ⟨g, 0, none⟩ ∧ w1.heap.size ≤ g ∧ ∀ j, j < K.length → w2.cell? ⟨g, 0 + j, none⟩ = some (.int .i64 (K.getD j 0)) := by
      rcases hh2.out with h | h
      · rw [h] at hpos; cases hpos
      · exact h
    have hp : (0 : Int) < (K.length : Int) := by omega
    have u0 : w2.cell? ⟨w.heap.size, 0, none⟩ = some (.int .i64 src) := cell_later hb2' t0
    have u1 : w2.cell? ⟨w.heap.size, 1, none⟩ = some (.slice ao lm cm) := cell_later hb2' t1
    have v1 : w2.cell? ⟨lb, 1, none⟩ = some (.int .i64 n) := cell_later hb2' m1
    have hmsg2 : RowI w2 .u8 (.slice ao lm cm) msg := hmsg1.same (fun b o q h => cell_later hb2' h)
    have HM : Hid (∀ wx, Below w2.drew.heap.size w2.drew wx → RowI wx .u8 (.slice ao lm cm) msg) := fun wx hb => hmsg2.same (fun b o q h => cell_later (below_drew hb) h)
    have HU : Hid (∀ wx, Below w2.drew.heap.size w2.drew wx → wx.cell? ⟨w.heap.size, 0, none⟩ = some (.int .i64 src) ∧ wx.cell? ⟨w.heap.size, 1, none⟩ = some (.slice ao lm cm) ∧ wx.cell? ⟨lb, 1, none⟩ = some (.int .i64 n)) := fun wx hb => ⟨cell_later (below_drew hb) u0, cell_later (below_drew hb) u1, cell_later (below_drew hb) v1⟩
    have HSB : Hid (∀ wx, Below w2.drew.heap.size w2.drew wx → wx.heap[sb]? = w.heap[sb]?) := fun wx hb => (hb.block sb (show sb < w2.heap.size from Nat.lt_of_lt_of_le hsbl (Nat.le_trans hw1 hb2'.size))).trans ((hb2'.block sb (Nat.lt_of_lt_of_le hsbl hw1)).trans hsbk)
    have HCT : Hid (∀ wx, Below w2.drew.heap.size w2.drew wx → ∀ j, j < K.length → wx.cell? ⟨tb, 0 + j, none⟩ = some (.int .i64 (K.getD j 0))) := fun wx hb j hj => cell_later (below_drew hb) (hct j hj)
    have HB2 : Hid (Below w1.heap.size w1 w2) := hb2'
    have htsb : tb ≠ sb := by omega
    have hw2 : w.heap.size ≤ w2.heap.size := Nat.le_trans hw1 hb2'.size
    clear hh2 hb2 hb2' hct m0 m1 m2 m3 m4 m5 m6 t0 t1 hnb1 hmsg1 hmsg2 hsbk
    go_wp2
    go_region_held3 (fun w' => w'.cell? ⟨w.heap.size, 0, none⟩ = some (.int .i64 src) ∧ w'.cell? ⟨w.heap.size, 1, none⟩ = some (.slice ao lm cm) ∧ w'.cell? ⟨lb, 1, none⟩ = some (.int .i64 n)) (first | assumption | go_keep | (refine HU.out _ ?_; assumption))
      (first | (go_at_call 15; refine (direct_any _ _ _ _ n _ hn).mono ?_; rintro e w3 ⟨rfl, hset3, hb3, hs3⟩) | (go_at_call 16; refine (encode_any _ _ _ _ msg _ (by omega) hset3 hlm (HM.out _ hb3)).mono ?_; rintro e w4 ⟨pb, pc, rfl, hpb, hcp, hb4⟩; have hb34 : Below w2.drew.heap.size w2.drew w4 := hb3.trans (hb4.mono (Nat.le_trans (Nat.le_add_right _ _) (Nat.le_of_lt hs3)))) | (go_at_call 53; refine (send_any sb pb 0 pc tb 0 cap2 (wire src msg) K w4 (by rw [wire_length]; omega) (by rw [wire_length]; omega) hpos hKl ((World.cell?_of_block (a := ⟨sb, 0, none⟩) (HSB.out _ hb34)).trans s0) ((World.cell?_of_block (a := ⟨sb, 1, none⟩) (HSB.out _ hb34)).trans s1) ((World.cell?_of_block (a := ⟨sb, 2, none⟩) (HSB.out _ hb34)).trans s2) ((World.frozen?_of_block (a := ⟨sb, 0, none⟩) (HSB.out _ hb34)).trans z0) ((World.frozen?_of_block (a := ⟨sb, 1, none⟩) (HSB.out _ hb34)).trans z1) ((World.frozen?_of_block (a := ⟨sb, 2, none⟩) (HSB.out _ hb34)).trans z2) (by have : w2.heap.size + 1 < w3.heap.size := hs3; omega) htsb hcp (HCT.out _ hb34)).mono ?_; rintro e w5 ⟨rfl, hsent⟩; have hS5 := sent_keeps hsent (show w.heap.size ≠ sb by omega) hls (HU.out _ hb34)))
    all_goals
      go_wp2
      go_end0
      obtain ⟨g1, c1, g2, c2, q0, q1, q2, q3, q4, hgr⟩ := hsent
      exact ⟨rfl, HKEPT.out _ (grown_chain HB2.out (below_drew hb34) hgr), ⟨g1, c1, g2, c2, q0, q1, q2, q3, q4⟩⟩

end Go.Proofs.YbulkchqmDoor
