/-
  THE SEAT b4185aD: what the law reads behind accept.
-/
import Derived.Test.YbulkchqmDoorLaw1
namespace Go.Proofs.YbulkchqmDoor
open Go.RowKit Go.Maps
set_option linter.unusedVariables false

theorem zero4 (w : World) : (zeroValue 4).run Ybad.prog w = .ok (.bool false) w := by kernel_rfl

theorem bool_inv {P : Program} {e : TypeId} (he : P.underlying e = some .bool) {v : Value} {z : DataW Unit × List MemPlace} (h : plainElem P e v = some z) : ∃ x, v = .bool x ∧ z = (.lit (.bool x), []) := by
  unfold plainElem at h
  rw [he] at h
  cases v <;> simp at h
  exact ⟨_, rfl, h.symm⟩

theorem kept_look {w : World} {mb : Nat} {src : Int} (wsrc : (Lit.int .i64 src).wf = true) (hown : w.ownsMap (H := Unit) Ybad.prog 3 (plainElem Ybad.prog 4) mb 1 ((DataW.map []).put (.int .i64 src) (.lit (.bool true)))) :
    (Instr.lookup 33 (.map (some mb)) (.int .i64 src) false).run Ybad.prog w = .ok (.bool true) w := by
  obtain ⟨v, ps, hrun, hv⟩ := hown.lookup law3 Ybad.underlying33 (zero4 _) (plainElem_bool Ybad.underlying4 false) (keyOf_int_mk Ybad.underlying3 wsrc)
  rw [atKey_put_same isMap_empty (by simp [WideAt.IsKeyLit])] at hv
  obtain ⟨x, rfl, hz⟩ := bool_inv Ybad.underlying4 hv
  cases hz
  exact hrun

theorem kept_len {w : World} {mb : Nat} {src : Int} (hown : w.ownsMap (H := Unit) Ybad.prog 3 (plainElem Ybad.prog 4) mb 1 ((DataW.map []).put (.int .i64 src) (.lit (.bool true)))) (ty : TypeId) :
    (Builtin.len_ #[33] ty #[.map (some mb)]).run Ybad.prog w = .ok (.int .i64 1) w := by
  have h := hown.len Ybad.underlying33 ty
  rw [size_put tidy_empty, if_neg (by simp [Maps.has])] at h
  exact h

/-- the world in which the law calls accept. -/
def W7 (w5 : World) (id n : Int) (nb : Value) (mb : Nat) : World :=
  (w5.alloc (.cells #[.int .i64 id, .int .i64 n, nb, .string ⟨#[]⟩, .int .i64 0, .int .i64 0, .int .i64 0, .slice none 0 0, .map (some mb), .slice none 0 0, .int .i64 0, .int .i64 0, .int .i64 0, .int .i64 0, .bool false] 36)).alloc
    (.cells #[.int .i64 0, .slice none 0 0, .slice none 0 0] 40)

/-- WHAT THE LAW READS BEHIND accept, B blocks having been there when the ledger was made. -/
def After (wc w8 : World) (src now : Int) (msg : List Int) : Prop :=
  ∃ g c : Nat, w8.cell? ⟨wc.heap.size + 3, 9, none⟩ = some (.slice (some ⟨g, 0, none⟩) 1 c) ∧ w8.cell? ⟨g, 0, none⟩ = some (.int .i64 src) ∧ w8.cell? ⟨g, 1, none⟩ = some (.string (strOfNums msg)) ∧ w8.cell? ⟨g, 2, none⟩ = some (.int .i64 now) ∧
    w8.cell? ⟨wc.heap.size + 3, 8, none⟩ = some (.map (some (wc.heap.size + 2))) ∧ w8.cell? ⟨wc.heap.size + 3, 10, none⟩ = some (.int .i64 0) ∧ w8.cell? ⟨wc.heap.size + 3, 11, none⟩ = some (.int .i64 0) ∧ w8.cell? ⟨wc.heap.size + 3, 12, none⟩ = some (.int .i64 0) ∧ w8.cell? ⟨wc.heap.size + 3, 13, none⟩ = some (.int .i64 0) ∧
    (Instr.lookup 33 (.map (some (wc.heap.size + 2))) (.int .i64 src) false).run Ybad.prog w8 = .ok (.bool true) w8 ∧ (∀ ty, (Builtin.len_ #[33] ty #[.map (some (wc.heap.size + 2))]).run Ybad.prog w8 = .ok (.int .i64 1) w8) ∧
    Below wc.heap.size wc w8 ∧ wc.heap.size + 5 ≤ w8.heap.size

theorem W7_cell (w5 : World) (id n : Int) (nb : Value) (mb : Nat) (j : Nat) : (W7 w5 id n nb mb).cell? ⟨w5.heap.size, j, none⟩ = #[Value.int .i64 id, .int .i64 n, nb, .string ⟨#[]⟩, .int .i64 0, .int .i64 0, .int .i64 0, .slice none 0 0, .map (some mb), .slice none 0 0, .int .i64 0, .int .i64 0, .int .i64 0, .int .i64 0, .bool false][j]? := by
  unfold W7
  simp [World.cell?, World.alloc, -World.alloc_eq, Array.getElem?_push]

theorem W7_at {w5 : World} {id n : Int} {nb : Value} {mb B : Nat} (hB : w5.heap.size = B) (j : Nat) : (W7 w5 id n nb mb).cell? ⟨B, j, none⟩ = #[Value.int .i64 id, .int .i64 n, nb, .string ⟨#[]⟩, .int .i64 0, .int .i64 0, .int .i64 0, .slice none 0 0, .map (some mb), .slice none 0 0, .int .i64 0, .int .i64 0, .int .i64 0, .int .i64 0, .bool false][j]? := by
  subst hB
  exact W7_cell w5 id n nb mb j

theorem W7_send {w5 : World} {id n : Int} {nb : Value} {mb B : Nat} (hB : w5.heap.size = B) : (W7 w5 id n nb mb).cell? ⟨B + 1, 0, none⟩ = some (.int .i64 0) ∧ (W7 w5 id n nb mb).cell? ⟨B + 1, 1, none⟩ = some (.slice none 0 0) ∧ (W7 w5 id n nb mb).cell? ⟨B + 1, 2, none⟩ = some (.slice none 0 0) ∧
    (∀ j, (W7 w5 id n nb mb).frozen? ⟨B + 1, j, none⟩ = false) ∧ (W7 w5 id n nb mb).frozen? ⟨B, 9, none⟩ = false := by
  subst hB
  unfold W7
  exact ⟨by simp, by simp, by simp, fun j => by simp, by simp⟩

theorem W7_old {w5 : World} {id n : Int} {nb : Value} {mb : Nat} (k : Nat) (hk : k < w5.heap.size) : (W7 w5 id n nb mb).heap[k]? = w5.heap[k]? := by
  unfold W7
  rw [Below.heap_alloc _ _ k (by simp; omega), Below.heap_alloc _ _ k hk]

theorem after_of {wc w5 w8 : World} {id src now : Int} {n : Int} {nb : Value} {msg : List Int} (wsrc : (Lit.int .i64 src).wf = true) (hb5 : Below wc.heap.size wc w5) (hs5 : w5.heap.size = wc.heap.size + 3)
    (hK : Kept (W7 w5 id n nb (wc.heap.size + 2)) w8 (wc.heap.size + 3) (wc.heap.size + 2) (wc.heap.size + 3 + 1) src now msg) : After wc w8 src now msg := by
  obtain ⟨g, c, r9, rg0, rg1, rg2, hown, hlc, hsz, htape, hos, hout, hblk⟩ := hK
  have hcell : ∀ j, j ≠ 9 → w8.cell? ⟨wc.heap.size + 3, j, none⟩ = _ := fun j hj => (hlc j hj).trans (W7_at hs5 j)
  have hsz7 : (W7 w5 id n nb (wc.heap.size + 2)).heap.size = wc.heap.size + 5 := by unfold W7; simp [hs5]
  refine ⟨g, c, r9, rg0, rg1, rg2, hcell 8 (by omega), hcell 10 (by omega), hcell 11 (by omega), hcell 12 (by omega), hcell 13 (by omega), kept_look wsrc hown, kept_len hown, ⟨?_, ?_, ?_, by omega, fun k hk => ?_⟩, by omega⟩
  · exact hos.trans hb5.os
  · exact htape.trans hb5.tape
  · exact hout.trans hb5.output
  · rw [hblk k (by omega) (by omega) (by omega) (by omega), W7_old k (by omega)]; exact hb5.block k hk

theorem row_W7 {wc w5 : World} {id n : Int} {nb : Value} {mb : Nat} {k : IntKind} {v : Value} {xs : List Int} (hb5 : Below wc.heap.size wc w5) (h : RowI wc k v xs) : RowI (W7 w5 id n nb mb) k v xs :=
  h.same (fun b o q hc => by unfold W7; exact Lib.cell?_alloc_some _ (Lib.cell?_alloc_some _ (cell_later hb5 hc)))

theorem acc_some (wc w5 : World) (src now id : Int) (n : Nat) (nbo : Option Addr) (cn : Nat) (ao so : Option Addr) (cm ls cs : Nat) (msg xs : List Int) (wsrc : (Lit.int .i64 src).wf = true)
    (hn : n ≤ 65535) (hxs : xs.length ≤ 4096) (hlm : msg.length ≤ 4096) (hb5 : Below wc.heap.size wc w5) (hs5 : w5.heap.size = wc.heap.size + 3) (hmap : w5.ownsMap (H := Unit) Ybad.prog 3 (plainElem Ybad.prog 4) (wc.heap.size + 2) 0 (.map []))
    (hmsg : RowI wc .u8 (.slice ao msg.length cm) msg) (hnb : RowI wc .i64 (.slice nbo xs.length cn) xs) (hK : ¬ keepTo xs src xs.length = []) :
    Calls Ybad.prog 8 #[.pointer (some ⟨wc.heap.size + 3, 0, none⟩), .int .i64 now, .agg #[.int .i64 src, .slice ao msg.length cm, .slice so ls cs], .iface 38 (.pointer (some ⟨wc.heap.size + 3 + 1, 0, none⟩))] (W7 w5 id n (.slice nbo xs.length cn) (wc.heap.size + 2)) fun e w8 =>
      e = .returned (.tuple #[]) ∧ Hid (After wc w8 src now msg) ∧ Hid (SentIn w8 (wc.heap.size + 3 + 1) (wire src msg) (keepTo xs src xs.length)) := by
  have hL := fun j => W7_at (id := id) (n := n) (nb := .slice nbo xs.length cn) (mb := wc.heap.size + 2) hs5 j
  obtain ⟨s0, s1, s2, hSf, hLf⟩ := W7_send (id := id) (n := n) (nb := .slice nbo xs.length cn) (mb := wc.heap.size + 2) hs5
  have hm7 : (W7 w5 id n (.slice nbo xs.length cn) (wc.heap.size + 2)).ownsMap (H := Unit) Ybad.prog 3 (plainElem Ybad.prog 4) (wc.heap.size + 2) 0 (.map []) := by unfold W7; exact (hmap.alloc _).alloc _
  have hkl : (keepTo xs src xs.length).length ≤ 100000 := Nat.le_trans (keepTo_le xs src xs.length) (by omega)
  refine (accept_some (wc.heap.size + 3) (wc.heap.size + 2) (wc.heap.size + 3 + 1) src now id n nbo xs.length cn ao so msg.length cm ls cs msg xs _ wsrc (by omega) (by omega) hn (by omega) hlm _ rfl (List.length_pos_iff.2 hK) hkl
    (hL 0) (hL 1) (hL 2) (hL 3) (hL 4) (hL 5) (hL 6) (hL 8) (hL 9) hLf hm7 (row_W7 hb5 hmsg) (row_W7 hb5 hnb) s0 s1 s2 (hSf 0) (hSf 1) (hSf 2)).mono ?_
  rintro e w8 ⟨rfl, hk, hs⟩
  exact ⟨rfl, after_of wsrc hb5 hs5 hk, hs⟩

theorem acc_none (wc w5 : World) (src now id : Int) (n : Nat) (nbo : Option Addr) (cn : Nat) (ao so : Option Addr) (cm ls cs : Nat) (msg xs : List Int) (wsrc : (Lit.int .i64 src).wf = true)
    (hn : n ≤ 65535) (hxs : xs.length ≤ 4096) (hlm : msg.length ≤ 4096) (hb5 : Below wc.heap.size wc w5) (hs5 : w5.heap.size = wc.heap.size + 3) (hmap : w5.ownsMap (H := Unit) Ybad.prog 3 (plainElem Ybad.prog 4) (wc.heap.size + 2) 0 (.map []))
    (hmsg : RowI wc .u8 (.slice ao msg.length cm) msg) (hnb : RowI wc .i64 (.slice nbo xs.length cn) xs) (hK : keepTo xs src xs.length = []) :
    Calls Ybad.prog 8 #[.pointer (some ⟨wc.heap.size + 3, 0, none⟩), .int .i64 now, .agg #[.int .i64 src, .slice ao msg.length cm, .slice so ls cs], .iface 38 (.pointer (some ⟨wc.heap.size + 3 + 1, 0, none⟩))] (W7 w5 id n (.slice nbo xs.length cn) (wc.heap.size + 2)) fun e w8 =>
      e = .returned (.tuple #[]) ∧ Hid (After wc w8 src now msg) ∧ Hid (w8.cell? ⟨wc.heap.size + 3 + 1, 0, none⟩ = some (.int .i64 0)) := by
  have hL := fun j => W7_at (id := id) (n := n) (nb := .slice nbo xs.length cn) (mb := wc.heap.size + 2) hs5 j
  obtain ⟨s0, s1, s2, hSf, hLf⟩ := W7_send (id := id) (n := n) (nb := .slice nbo xs.length cn) (mb := wc.heap.size + 2) hs5
  have hm7 : (W7 w5 id n (.slice nbo xs.length cn) (wc.heap.size + 2)).ownsMap (H := Unit) Ybad.prog 3 (plainElem Ybad.prog 4) (wc.heap.size + 2) 0 (.map []) := by unfold W7; exact (hmap.alloc _).alloc _
  refine (accept_none (wc.heap.size + 3) (wc.heap.size + 2) (wc.heap.size + 3 + 1) src now id n nbo xs.length cn ao so msg.length cm ls cs msg xs _ wsrc (by omega) (by omega) hn (by omega) hlm hK
    (hL 0) (hL 1) (hL 2) (hL 3) (hL 4) (hL 5) (hL 6) (hL 8) (hL 9) hLf hm7 (row_W7 hb5 hmsg) (row_W7 hb5 hnb) s0 s1 s2 (hSf 0) (hSf 1) (hSf 2)).mono ?_
  rintro e w8 ⟨rfl, hk, hs⟩
  exact ⟨rfl, after_of wsrc hb5 hs5 hk, hs⟩

end Go.Proofs.YbulkchqmDoor
