/-
  THE SEAT b4185aD: ledger.accept (8) where no neighbour is left; newLedger (7).
-/
import Derived.Test.YbulkchqmDoorAcc
namespace Go.Proofs.YbulkchqmDoor
open Go.RowKit Go.Maps
set_option linter.unusedVariables false

set_option maxHeartbeats 1000000 in
theorem accept_none (lb mb sb : Nat) (src now id : Int) (n : Nat) (nbo : Option Addr) (ln cn : Nat) (ao so : Option Addr) (lm cm ls cs : Nat) (msg xs : List Int) (w : World) (wsrc : (Lit.int .i64 src).wf = true) (hlb : lb ≠ mb) (hls : lb ≠ sb)
    (hn : n ≤ 65535) (hxs : xs.length ≤ 100000) (hlm : msg.length ≤ 4096) (hK : keepTo xs src xs.length = [])
    (l0 : w.cell? ⟨lb, 0, none⟩ = some (.int .i64 id)) (l1 : w.cell? ⟨lb, 1, none⟩ = some (.int .i64 n)) (l2 : w.cell? ⟨lb, 2, none⟩ = some (.slice nbo ln cn)) (l3 : w.cell? ⟨lb, 3, none⟩ = some (.string ⟨#[]⟩)) (l4 : w.cell? ⟨lb, 4, none⟩ = some (.int .i64 0)) (l5 : w.cell? ⟨lb, 5, none⟩ = some (.int .i64 0)) (l6 : w.cell? ⟨lb, 6, none⟩ = some (.int .i64 0))
    (l8 : w.cell? ⟨lb, 8, none⟩ = some (.map (some mb))) (l9 : w.cell? ⟨lb, 9, none⟩ = some (.slice none 0 0)) (f9 : w.frozen? ⟨lb, 9, none⟩ = false)
    (hmap : w.ownsMap (H := Unit) Ybad.prog 3 (plainElem Ybad.prog 4) mb 0 (.map [])) (hmsg : RowI w .u8 (.slice ao lm cm) msg) (hnb : RowI w .i64 (.slice nbo ln cn) xs)
    (s0 : w.cell? ⟨sb, 0, none⟩ = some (.int .i64 0)) (s1 : w.cell? ⟨sb, 1, none⟩ = some (.slice none 0 0)) (s2 : w.cell? ⟨sb, 2, none⟩ = some (.slice none 0 0)) (z0 : w.frozen? ⟨sb, 0, none⟩ = false) (z1 : w.frozen? ⟨sb, 1, none⟩ = false) (z2 : w.frozen? ⟨sb, 2, none⟩ = false) :
    Calls Ybad.prog 8 #[.pointer (some ⟨lb, 0, none⟩), .int .i64 now, .agg #[.int .i64 src, .slice ao lm cm, .slice so ls cs], .iface 38 (.pointer (some ⟨sb, 0, none⟩))] w fun e w' =>
      e = .returned (.tuple #[]) ∧ Kept w w' lb mb sb src now msg ∧ w'.cell? ⟨sb, 0, none⟩ = some (.int .i64 0) := by
  have hlt : lb < w.heap.size := World.block_lt_of_cell? _ _ l8
  have HRR : Hid (Calls Ybad.prog 13 #[.pointer (some ⟨lb, 0, none⟩), .int .i64 now, .agg #[.int .i64 src, .slice ao lm cm, .slice so ls cs]] (w.alloc (.cells #[.int .i64 src, .slice ao lm cm, .slice so ls cs] 43)) fun e w' =>
      e = .returned (.tuple #[]) ∧ Recorded (w.alloc (.cells #[.int .i64 src, .slice ao lm cm, .slice so ls cs] 43)) w' lb mb src now msg) :=
    record_any lb mb src now ao so lm cm ls cs msg _ wsrc hlb (Lib.cell?_alloc_some _ l8) (Lib.cell?_alloc_some _ l9) ((World.frozen?_of_block (a := ⟨lb, 9, none⟩) (Below.heap_alloc w _ lb hlt)).trans f9) (hmap.alloc _) (holds_kept (row := none) hmsg.holds (World.grownBy_alloc _ _ none) (by intro b hb; simp))
  go_enter Ybad.func8, Ybad.ntmps8
  go_wp2_with (go_at_call 13; refine (Calls.mono HRR.out ?_))
  rintro e w1 ⟨rfl, hrec⟩
  have HREC := hrec
  obtain ⟨g, c, r9, rg0, rg1, rg2, hg, hown, hlc, hlf, hsz, htape, hos, hout, hblk⟩ := hrec
  have m0 : w1.cell? ⟨lb, 0, none⟩ = some (.int .i64 id) := (hlc 0 (by omega)).trans (Lib.cell?_alloc_some _ l0)
  have m1 : w1.cell? ⟨lb, 1, none⟩ = some (.int .i64 n) := (hlc 1 (by omega)).trans (Lib.cell?_alloc_some _ l1)
  have m2 : w1.cell? ⟨lb, 2, none⟩ = some (.slice nbo ln cn) := (hlc 2 (by omega)).trans (Lib.cell?_alloc_some _ l2)
  have m3 : w1.cell? ⟨lb, 3, none⟩ = some (.string ⟨#[]⟩) := (hlc 3 (by omega)).trans (Lib.cell?_alloc_some _ l3)
  have m4 : w1.cell? ⟨lb, 4, none⟩ = some (.int .i64 0) := (hlc 4 (by omega)).trans (Lib.cell?_alloc_some _ l4)
  have m5 : w1.cell? ⟨lb, 5, none⟩ = some (.int .i64 0) := (hlc 5 (by omega)).trans (Lib.cell?_alloc_some _ l5)
  have m6 : w1.cell? ⟨lb, 6, none⟩ = some (.int .i64 0) := (hlc 6 (by omega)).trans (Lib.cell?_alloc_some _ l6)
  have t0 : w1.cell? ⟨w.heap.size, 0, none⟩ = some (.int .i64 src) := (World.cell?_of_block (a := ⟨w.heap.size, 0, none⟩) (hblk w.heap.size (by simp) (by omega) (by have := hmap.lt; omega))).trans (by simp)
  have t1 : w1.cell? ⟨w.heap.size, 1, none⟩ = some (.slice ao lm cm) := (World.cell?_of_block (a := ⟨w.heap.size, 1, none⟩) (hblk w.heap.size (by simp) (by omega) (by have := hmap.lt; omega))).trans (by simp)
  have hsamei : ∀ k b o q, w.cell? ⟨b, o, none⟩ = some (.int k q) → w1.cell? ⟨b, o, none⟩ = some (.int k q) := fun k b o q ha => by
    have h1 : b < w.heap.size := World.block_lt_of_cell? _ _ ha
    have h2 : b ≠ mb := cell_not_map hmap ha
    have h3 : (w.alloc (.cells #[.int .i64 src, .slice ao lm cm, .slice so ls cs] 43)).cell? ⟨b, o, none⟩ = some (.int k q) := Lib.cell?_alloc_some _ ha
    by_cases hbl : b = lb
    · subst hbl
      have h9 : o ≠ 9 := fun e => by subst e; rw [l9] at ha; cases ha
      rw [hlc o h9]; exact h3
    · rw [World.cell?_of_block (a := ⟨b, o, none⟩) (hblk b (by simp; omega) hbl h2)]; exact h3
  have hsb1 : ∀ o u, w.cell? ⟨sb, o, none⟩ = some u → w1.cell? ⟨sb, o, none⟩ = some u := fun o u ha => by
    have h1 : sb < w.heap.size := World.block_lt_of_cell? _ _ ha
    have h2 : sb ≠ mb := cell_not_map hmap ha
    rw [World.cell?_of_block (a := ⟨sb, o, none⟩) (hblk sb (by simp; omega) (fun e => hls e.symm) h2)]
    exact Lib.cell?_alloc_some _ ha
  have hnb1 : RowI w1.drew .i64 (.slice nbo ln cn) xs := hnb.same (hsamei _)
  have hmsg1 : RowI w1 .u8 (.slice ao lm cm) msg := hmsg.same (hsamei _)
  have hsbl : sb < w.heap.size := World.block_lt_of_cell? _ _ s0
  have hsbm : sb ≠ mb := cell_not_map hmap s0
  have hsbk : w1.heap[sb]? = w.heap[sb]? := (hblk sb (by simp; omega) (fun e => hls e.symm) hsbm).trans (Below.heap_alloc w _ sb hsbl)
  have hw1 : w.heap.size ≤ w1.heap.size := by rw [World.size_alloc] at hsz; omega
  have HKEPT : Hid (∀ w2, w1.grownBy w2 (some sb) → Kept w w2 lb mb sb src now msg) := fun w2 hg => kept_of HREC hlt hls (fun e => hsbm e.symm) hmap.lt hsbl hg
  clear r9 rg0 rg1 rg2 hg hown hlc hlf hsz htape hos hout hblk HREC hsamei hsb1
  go_wp2
  go_region_with (go_at_call 14; refine (allBut_any _ _ _ _ _ _ _ _ xs [] hK _ hxs hnb1).mono ?_; rintro e w2 ⟨ao2, cap2, rfl, hh2, hb2⟩)
  all_goals
    have HB2 : Hid (Below w1.heap.size w1 w2) := below_drew hb2
    have HS0 : Hid (w2.cell? ⟨sb, 0, none⟩ = some (.int .i64 0)) := (World.cell?_of_block (a := ⟨sb, 0, none⟩) (((below_drew hb2).block sb (Nat.lt_of_lt_of_le hsbl hw1)).trans hsbk)).trans s0
    clear hh2 hb2 m0 m1 m2 m3 m4 m5 m6 t0 t1 hnb1 hmsg1 hsbk
    go_wp2
    go_end0
    exact ⟨rfl, HKEPT.out _ (grown_chain (Below.refl _ _) HB2.out (World.grownBy.refl _ _)), HS0.out⟩

/-- the ledger as newLedger hands it back. -/
theorem ledger_any (id n : Int) (nbo : Option Addr) (ln cn : Nat) (w : World) :
    Calls Ybad.prog 7 #[.agg #[.int .i64 id, .int .i64 n, .slice nbo ln cn, .string ⟨#[]⟩, .int .i64 0, .int .i64 0, .int .i64 0]] w fun e w' =>
      e = .returned (.agg #[.int .i64 id, .int .i64 n, .slice nbo ln cn, .string ⟨#[]⟩, .int .i64 0, .int .i64 0, .int .i64 0, .slice none 0 0, .map (some (w.heap.size + 2)), .slice none 0 0, .int .i64 0, .int .i64 0, .int .i64 0, .int .i64 0, .bool false]) ∧
      Below w.heap.size w w' ∧ w'.heap.size = w.heap.size + 3 ∧ Hid (w'.ownsMap (H := Unit) Ybad.prog 3 (plainElem Ybad.prog 4) (w.heap.size + 2) 0 (.map [])) := by
  have hmm := @run_makeMap Ybad.prog
  go_enter Ybad.func7, Ybad.ntmps7
  go_wp2
  refine bodyPost_ret (v := .agg #[.int .i64 id, .int .i64 n, .slice nbo ln cn, .string ⟨#[]⟩, .int .i64 0, .int .i64 0, .int .i64 0, .slice none 0 0, .map (some (w.heap.size + 2)), .slice none 0 0, .int .i64 0, .int .i64 0, .int .i64 0, .int .i64 0, .bool false]) (by simp [results, Ybad.results7, go_sem]) rfl
    ⟨rfl, ((((Below.refl _ _).alloc (Nat.le_refl _) _).alloc (by simp) _).alloc (by simp; omega) _), by simp, ?_⟩
  have h := World.ownsMap_made (H := Unit) ((w.alloc (.cells #[.int .i64 id, .int .i64 n, .slice nbo ln cn, .string ⟨#[]⟩, .int .i64 0, .int .i64 0, .int .i64 0] 32)).alloc (.cells #[.int .i64 id, .int .i64 n, .slice nbo ln cn, .string ⟨#[]⟩, .int .i64 0, .int .i64 0, .int .i64 0, .slice none 0 0, .map (some (w.heap.size + 2)), .slice none 0 0, .int .i64 0, .int .i64 0, .int .i64 0, .int .i64 0, .bool false] 36)) Ybad.prog 3 (plainElem Ybad.prog 4)
  rw [World.size_alloc, World.size_alloc] at h
  exact h

end Go.Proofs.YbulkchqmDoor
