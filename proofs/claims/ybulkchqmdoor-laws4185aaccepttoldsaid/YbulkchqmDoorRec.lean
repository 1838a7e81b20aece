/-
  THE SEAT b4185aD: ledger.record (13).
-/
import Derived.Test.YbulkchqmDoorSend
import Derived.Deep.RegionLawGrows
import Derived.Maps.OwnOps
import Derived.Maps.OwnSet
import Derived.Laws.BytesArg
namespace Go.Proofs.YbulkchqmDoor
open Go.RowKit Go.Maps
set_option linter.unusedVariables false

theorem conv_zero (w : World) (p : Option Addr) (c : Nat) : (convert 22 9 (.slice p 0 c)).run Ybad.prog w = .ok (.string (strOfNums [])) w := by
  rw [run_convert_bytes_string w 22 9 5 _ 0 c Ybad.underlying22 Ybad.underlying5 Ybad.underlying9]
  cases p <;> simp [Conv.bytesToString, loadCells]
  all_goals rfl

theorem conv_str (w : World) (v : Value) (xs : List Int) (h : HoldsI w .u8 v xs) : (convert 22 9 v).run Ybad.prog w = .ok (.string (strOfNums xs)) w := by
  obtain ⟨ao, cap, rfl, h⟩ := h
  rcases h with rfl | ⟨b, off, rfl, hc⟩
  · exact conv_zero w ao cap
  · exact run_convert_bytes_arg w 22 5 Ybad.underlying22 Ybad.underlying5 b off xs.length cap xs rfl hc 9 Ybad.underlying9

theorem law3 : Keyed Ybad.prog 3 := int_keyed Ybad.underlying3
theorem info45 : (Ybad.prog.info? 45).map (fun i => (i.zero, i.size, i.bytes)) = some (some (.agg #[.int .i64 0, .string ⟨#[]⟩, .int .i64 0]), 3, 32) := by kernel_rfl

/-- WHAT record LEAVES: the map holds the source; the list holds one acceptance; nothing else has turned. -/
def Recorded (w w' : World) (lb mb : Nat) (src now : Int) (msg : List Int) : Prop :=
  ∃ g c : Nat, w'.cell? ⟨lb, 9, none⟩ = some (.slice (some ⟨g, 0, none⟩) 1 c) ∧ w'.cell? ⟨g, 0, none⟩ = some (.int .i64 src) ∧ w'.cell? ⟨g, 1, none⟩ = some (.string (strOfNums msg)) ∧ w'.cell? ⟨g, 2, none⟩ = some (.int .i64 now) ∧
    w.heap.size ≤ g ∧ w'.ownsMap (H := Unit) Ybad.prog 3 (plainElem Ybad.prog 4) mb 1 ((DataW.map []).put (.int .i64 src) (.lit (.bool true))) ∧
    (∀ j, j ≠ 9 → w'.cell? ⟨lb, j, none⟩ = w.cell? ⟨lb, j, none⟩) ∧ (∀ j, w'.frozen? ⟨lb, j, none⟩ = w.frozen? ⟨lb, j, none⟩) ∧ w.heap.size ≤ w'.heap.size ∧ w'.tape = w.tape ∧ w'.os = w.os ∧ w'.output = w.output ∧ (∀ k, k < w.heap.size → k ≠ lb → k ≠ mb → w'.heap[k]? = w.heap[k]?)

theorem cell_not_map {w : World} {P : Program} {k : TypeId} {R : Value → Option (DataW Unit × List MemPlace)} {mb n : Nat} {D : DataW Unit} (hm : w.ownsMap P k R mb n D) {a : Addr} {v : Value} (h : w.cell? a = some v) : a.block ≠ mb := by
  obtain ⟨es, clock, hb, _⟩ := hm
  intro e
  rw [World.cell?, e, hb] at h
  cases h

theorem holds_map {w w' : World} {P : Program} {t : TypeId} {R : Value → Option (DataW Unit × List MemPlace)} {mb n : Nat} {D : DataW Unit} {k : IntKind} {v : Value} {xs : List Int} (h : HoldsI w k v xs) (hm : w.ownsMap P t R mb n D) (hg : w.grownBy w' (some mb)) : HoldsI w' k v xs := by
  obtain ⟨ao, cap, rfl, h⟩ := h
  refine ⟨ao, cap, rfl, ?_⟩
  rcases h with h | ⟨b, off, rfl, hc⟩
  · exact .inl h
  · exact .inr ⟨b, off, rfl, fun j hj => hg.cell (hc j hj) (by have := cell_not_map hm (hc j hj); simpa using this)⟩

theorem cell_three_new (w : World) (a b c : Value) (t : TypeId) : ∀ j u, [a, b, c][j]? = some u → (w.alloc (.cells #[a, b, c] t)).cell? ((⟨w.heap.size, 0, none⟩ : Addr).add j) = some u := by
  intro j u hj
  match j, hj with
  | 0, hj => simp at hj; subst hj; simp [Addr.add]
  | 1, hj => simp at hj; subst hj; simp [Addr.add]
  | 2, hj => simp at hj; subst hj; simp [Addr.add]
  | j + 3, hj => simp at hj

theorem own_shape {w : World} {B e size : Nat} {v : Value} {n : Nat} {xs : List Value} (h : w.ownsRow B e size v n xs) (hn : 0 < n) : ∃ g cap, v = .slice (some ⟨g, 0, none⟩) n cap ∧ B ≤ g ∧ g < w.heap.size ∧ ∀ j, j < n * size → w.cell? ⟨g, j, none⟩ = xs[j]? := by
  obtain ⟨_, h2⟩ := id h
  rcases h2 with ⟨_, h0⟩ | ⟨g, cap, cur, rfl, hg, hh, hc, _⟩
  · omega
  refine ⟨g, cap, rfl, hg, ?_, fun j hj => h.cellAt j hj⟩
  rcases Nat.lt_or_ge g w.heap.size with h' | h'
  · exact h'
  · simp [Array.getElem?_eq_none h'] at hh

theorem rec_end {w w1 w2 : World} {lb mb : Nat} {src now : Int} {msg : List Int} {g cc : Nat} (hlt : lb < w.heap.size) (hlb : lb ≠ mb) (hs1 : w.heap.size + 1 ≤ w1.heap.size)
    (hc : ∀ j, w1.cell? ⟨lb, j, none⟩ = w.cell? ⟨lb, j, none⟩) (hf : ∀ j, w1.frozen? ⟨lb, j, none⟩ = w.frozen? ⟨lb, j, none⟩) (hK : ∀ k, k < w.heap.size → k ≠ mb → w1.heap[k]? = w.heap[k]?)
    (hT : w1.tape = w.tape ∧ w1.os = w.os ∧ w1.output = w.output) (hO : w1.ownsMap (H := Unit) Ybad.prog 3 (plainElem Ybad.prog 4) mb (0 + 1) ((DataW.map []).put (.int .i64 src) (.lit (.bool true))))
    (hR : w1.heap.size + 1 ≤ g ∧ (∀ j, j < 3 → w2.cell? ⟨g, j, none⟩ = [Value.int .i64 src, .string (strOfNums msg), .int .i64 now][j]?) ∧ w1.grownBy w2 none) (d9 : w2.cell? ⟨lb, 9, none⟩ = some (.slice none 0 0)) :
    Recorded w (w2.setCell ⟨lb, 9, none⟩ (.slice (some ⟨g, 0, none⟩) 1 cc)) lb mb src now msg := by
  obtain ⟨hg, hcells, hk⟩ := hR
  have hblk : ∀ k, k < w1.heap.size → w2.heap[k]? = w1.heap[k]? := fun k h => hk.block k h (by simp)
  have hgl : ∀ j, (⟨lb, 9, none⟩ : Addr) ≠ ⟨g, j, none⟩ := fun j e => by have := congrArg Addr.block e; simp at this; omega
  refine ⟨g, cc, World.cell?_setCell_same _ _ _ d9, ?_, ?_, ?_, by omega, ?_, fun j hj => ?_, fun j => ?_, ?_, hk.tape.trans hT.1, hk.os.trans hT.2.1, hk.output.trans hT.2.2, fun k h1 h2 h3 => ?_⟩
  · rw [World.cell?_setCell_other _ _ _ _ (hgl 0)]; exact hcells 0 (by omega)
  · rw [World.cell?_setCell_other _ _ _ _ (hgl 1)]; exact hcells 1 (by omega)
  · rw [World.cell?_setCell_other _ _ _ _ (hgl 2)]; exact hcells 2 (by omega)
  · exact (hO.kept hk (by simp)).setCell (a := ⟨lb, 9, none⟩) (fun e => hlb e.symm) _
  · rw [World.cell?_setCell_other _ _ _ _ (fun e => hj (by simpa using (congrArg Addr.off e).symm)), World.cell?_of_block (a := ⟨lb, j, none⟩) (hblk lb (by omega))]; exact hc j
  · rw [World.frozen?_setCell, World.frozen?_of_block (a := ⟨lb, j, none⟩) (hblk lb (by omega))]; exact hf j
  · rw [size_setCell]; have := hk.size; omega
  · rw [Below.heap_setCell _ _ _ _ (by simpa using h2), hblk k (by omega)]; exact hK k h1 h3

set_option maxHeartbeats 4000000 in
theorem record_any (lb mb : Nat) (src now : Int) (ao so : Option Addr) (lm cm ls cs : Nat) (msg : List Int) (w : World) (wsrc : (Lit.int .i64 src).wf = true) (hlb : lb ≠ mb)
    (l8 : w.cell? ⟨lb, 8, none⟩ = some (.map (some mb))) (l9 : w.cell? ⟨lb, 9, none⟩ = some (.slice none 0 0)) (f9 : w.frozen? ⟨lb, 9, none⟩ = false)
    (hmap : w.ownsMap (H := Unit) Ybad.prog 3 (plainElem Ybad.prog 4) mb 0 (.map [])) (hmsg : HoldsI w .u8 (.slice ao lm cm) msg) :
    Calls Ybad.prog 13 #[.pointer (some ⟨lb, 0, none⟩), .int .i64 now, .agg #[.int .i64 src, .slice ao lm cm, .slice so ls cs]] w fun e w' =>
      e = .returned (.tuple #[]) ∧ Recorded w w' lb mb src now msg := by
  have hlt : lb < w.heap.size := World.block_lt_of_cell? _ _ l8
  obtain ⟨i45, hi, hz0, hz1, hz2⟩ := info_parts info45
  obtain ⟨w1, hrun, hown1, hg1⟩ := ((hmap.alloc (.cells #[.int .i64 src, .slice ao lm cm, .slice so ls cs] 43)).drew).update law3 Ybad.underlying33 (by unfold maxLen; omega) (keyOf_int_mk Ybad.underlying3 wsrc) (plainElem_bool Ybad.underlying4 true)
  have HO1 : Hid _ := hown1
  have HG1 : Hid _ := hg1
  clear hown1 hg1
  go_enter Ybad.func13, Ybad.ntmps13
  go_wp2
  go_region
  have g1 := HG1.out
  have hml := hmap.lt
  have b0 : w1.cell? ⟨w.heap.size, 0, none⟩ = some (.int .i64 src) := g1.cell (a := ⟨w.heap.size, 0, none⟩) (by simp) (by simp; omega)
  have b1 : w1.cell? ⟨w.heap.size, 1, none⟩ = some (.slice ao lm cm) := g1.cell (a := ⟨w.heap.size, 1, none⟩) (by simp) (by simp; omega)
  have hold : w1.heap[lb]? = w.heap[lb]? := (g1.block lb (by simp; omega) (by simpa using hlb)).trans (Below.heap_alloc w (.cells #[.int .i64 src, .slice ao lm cm, .slice so ls cs] 43) lb hlt)
  have c9 : w1.cell? ⟨lb, 9, none⟩ = some (.slice none 0 0) := (World.cell?_of_block (a := ⟨lb, 9, none⟩) hold).trans l9
  have e9 : w1.frozen? ⟨lb, 9, none⟩ = false := (World.frozen?_of_block (a := ⟨lb, 9, none⟩) hold).trans f9
  have HC : Hid (∀ j, w1.cell? ⟨lb, j, none⟩ = w.cell? ⟨lb, j, none⟩) := fun j => World.cell?_of_block (a := ⟨lb, j, none⟩) hold
  have HF : Hid (∀ j, w1.frozen? ⟨lb, j, none⟩ = w.frozen? ⟨lb, j, none⟩) := fun j => World.frozen?_of_block (a := ⟨lb, j, none⟩) hold
  have HK : Hid (∀ k, k < w.heap.size → k ≠ mb → w1.heap[k]? = w.heap[k]?) := fun k hk hne => (g1.block k (by simp; omega) (by simpa using hne)).trans (Below.heap_alloc w (.cells #[.int .i64 src, .slice ao lm cm, .slice so ls cs] 43) k hk)
  have hs1 : w.heap.size + 1 ≤ w1.heap.size := by have := g1.size; simpa using this
  have HT : Hid (w1.tape = w.tape ∧ w1.os = w.os ∧ w1.output = w.output) := ⟨g1.tape, g1.os, g1.output⟩
  have hconv : (convert 22 9 (.slice ao lm cm)).run Ybad.prog w1.drew = .ok (.string (strOfNums msg)) w1.drew := by
    have h1 : HoldsI (w.alloc (.cells #[.int .i64 src, .slice ao lm cm, .slice so ls cs] 43)) .u8 (.slice ao lm cm) msg := holds_kept (row := none) hmsg (World.grownBy_alloc _ _ none) (by intro b hb; simp)
    have h2 : HoldsI w1 .u8 (.slice ao lm cm) msg := holds_map (w := (w.alloc (.cells #[.int .i64 src, .slice ao lm cm, .slice so ls cs] 43)).drew) h1 ((hmap.alloc (.cells #[.int .i64 src, .slice ao lm cm, .slice so ls cs] 43)).drew) g1
    exact conv_str w1.drew _ _ h2
  have HN : Hid (∀ j u, [Value.int .i64 src, .string (strOfNums msg), .int .i64 now][j]? = some u → (w1.alloc (.cells #[.int .i64 src, .string (strOfNums msg), .int .i64 now] 45)).drew.cell? ((⟨w1.heap.size, 0, none⟩ : Addr).add j) = some u) := cell_three_new w1 _ _ _ 45
  have HQ : Hid (∀ v2 w2, w2.ownsRow (w1.alloc (.cells #[.int .i64 src, .string (strOfNums msg), .int .i64 now] 45)).drew.heap.size 45 3 v2 (0 + 1) ([] ++ [Value.int .i64 src, .string (strOfNums msg), .int .i64 now]) → (w1.alloc (.cells #[.int .i64 src, .string (strOfNums msg), .int .i64 now] 45)).drew.grownBy w2 none →
      ∃ g cc, v2 = .slice (some ⟨g, 0, none⟩) 1 cc ∧ w2.cell? ⟨lb, 9, none⟩ = some (.slice none 0 0) ∧ w2.frozen? ⟨lb, 9, none⟩ = false ∧ Hid (w1.heap.size + 1 ≤ g ∧ (∀ j, j < 3 → w2.cell? ⟨g, j, none⟩ = [Value.int .i64 src, .string (strOfNums msg), .int .i64 now][j]?) ∧ w1.grownBy w2 none)) := by
    intro v2 w2 hown2 hg2
    obtain ⟨g, cc, hv2, hgg, hgl, hcells⟩ := own_shape hown2 (by omega)
    have hk : w1.grownBy w2 none := ⟨hg2.os, hg2.tape, hg2.output, Nat.le_trans (by simp) hg2.size, fun k hk hne => (hg2.block k (by simp; omega) hne).trans (Below.heap_alloc w1 _ k hk)⟩
    refine ⟨g, cc, hv2, hk.cell c9 (by simp), (World.frozen?_of_block (a := ⟨lb, 9, none⟩) (hk.block lb (by omega) (by simp))).trans e9, by simpa using hgg, fun j hj => by simpa using hcells j (by omega), hk⟩
  have k9 : (w1.alloc (.cells #[.int .i64 src, .string (strOfNums msg), .int .i64 now] 45)).cell? ⟨lb, 9, none⟩ = some (.slice none 0 0) := Lib.cell?_alloc_some _ c9
  clear g1 hold hmap hmsg l8 l9 f9 hrun HG1
  go_wp2
  go_region_law (refine step_append_grows rfl (.tmp 16) (.tmp 24) 34 rfl 45 i45 _ 3 32 Ybad.underlying34 hi hz0 hz1 hz2 rfl (by decide) none 0 0 [] (by simp [Act.eval]) (fun _ => ⟨rfl, rfl⟩) rfl (fun b h => by cases h) ⟨w1.heap.size, 0, none⟩ 1 1 [.int .i64 src, .string (strOfNums msg), .int .i64 now] (by simp [Act.eval]) rfl HN.out (by simp [Value.oneCell']) (by omega) (by unfold maxLen; omega) (by omega) ?_; intro v2 w2 hown2 hg2; obtain ⟨g, cc, hv2, d9, q9, HR⟩ := HQ.out v2 w2 hown2 hg2; rw [hv2]; clear hv2 hown2 hg2)
  all_goals
    go_end0
    exact ⟨rfl, rec_end hlt hlb hs1 HC.out HF.out HK.out HT.out HO1.out HR.out d9⟩

end Go.Proofs.YbulkchqmDoor
