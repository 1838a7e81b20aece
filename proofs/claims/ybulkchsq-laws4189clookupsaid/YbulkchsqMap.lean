/-
  THE SEAT b4189a: the map[string]string as a plain function; the bytes that spell a string; what stays.
-/
import Derived.Test.YbulkchsqRows
import Derived.WalkKit
import Derived.WalkSpells
import Derived.WalkLawsBesides
import Derived.Deep.QuietTactic
import Derived.BigQuiet
import Derived.WalkSmall
import Derived.RegionTactic
import Derived.Lib.SliceRun
import Derived.Lib.ConvBytes
import Derived.Laws.BytesArg
import Derived.Maps.OwnSet
import Derived.Maps.StringElems
import Derived.Below
import Derived.Carry
namespace Go.Proofs.Ybulkchsq
open Go.RowKit Go.Maps Go.WideMaps Go.ChangeMaps
set_option linter.unusedVariables false

abbrev Owns (w : World) (b n : Nat) (D : DataW Unit) : Prop := w.ownsMap Yba.prog 9 (plainElem Yba.prog 9) b n D

theorem own_tight {w : World} {b n : Nat} {D : DataW Unit} (h : Owns w b n D) : Owns w b (Maps.size D) D := by
  obtain ⟨es, clock, hb, F, _, rfl⟩ := h
  exact ⟨es, clock, hb, F, by simp [Maps.size, length_sorted], rfl⟩

theorem law9 : Keyed Yba.prog 9 := string_keyed Yba.underlying9
theorem zero9 (w : World) : (zeroValue 9).run Yba.prog w = .ok (.string ⟨#[]⟩) w := by kernel_rfl

/-- THE DATUM D ANSWERS AS THE FUNCTION f. -/
def Rep (D : DataW Unit) (f : ByteArray → Option ByteArray) : Prop :=
  ∀ s : ByteArray, s.size ≤ maxLen → Maps.has D (.string s.data.toList) = (f s).isSome ∧ ∀ v, f s = some v → ∀ z, D.atKey (.string s.data.toList) z = .lit (.string v.data.toList)

/-- BLOCK b IS A MAP OF sz ENTRIES THAT ANSWERS AS f. -/
def MapAt (w : World) (b : Nat) (f : ByteArray → Option ByteArray) (sz : Nat) : Prop := ∃ D, Owns w b sz D ∧ Maps.size D = sz ∧ Rep D f

def upd (f : ByteArray → Option ByteArray) (s v : ByteArray) : ByteArray → Option ByteArray := fun t => if t = s then some v else f t

theorem ba_ext {a b : ByteArray} (h : a.data.toList = b.data.toList) : a = b := by
  cases a; cases b; simp at h; simp [h]

theorem MapAt.look {w : World} {b : Nat} {f : ByteArray → Option ByteArray} {sz : Nat} (h : MapAt w b f sz) {s : ByteArray} (hs : s.size ≤ maxLen) :
    (Instr.lookup 28 (.map (some b)) (.string s) true).run Yba.prog w = .ok (.tuple #[.string ((f s).getD ⟨#[]⟩), .bool (f s).isSome]) w := by
  obtain ⟨D, hown, _, hrep⟩ := h
  obtain ⟨v, ps, hrun, hv⟩ := hown.look_ok law9 Yba.underlying28 (zero9 w) (plainElem_string Yba.underlying9 (by decide)) (keyOf_string_mk (s := s) Yba.underlying9 hs)
  obtain ⟨c, rfl, hc, _⟩ := plainElem_string_inv Yba.underlying9 hv
  obtain ⟨h1, h2⟩ := hrep s hs
  rw [hrun, h1]
  cases hf : f s with
  | none =>
    rw [hf] at h1
    rw [atKey_of_not_has h1] at hc
    have : c = ⟨#[]⟩ := ba_ext (by simpa using (congrArg Prod.fst hc).symm)
    subst this; rfl
  | some x =>
    rw [h2 x hf] at hc
    have : c = x := ba_ext (by simpa using (congrArg Prod.fst hc).symm)
    subst this; rfl

theorem MapAt.len {w : World} {b : Nat} {f : ByteArray → Option ByteArray} {sz : Nat} (h : MapAt w b f sz) (ty : TypeId) : (Builtin.len_ #[28] ty #[.map (some b)]).run Yba.prog w = .ok (.int .i64 sz) w := by
  obtain ⟨D, hown, hsz, _⟩ := h
  rw [hown.len Yba.underlying28, hsz]

theorem MapAt.lt {w : World} {b : Nat} {f : ByteArray → Option ByteArray} {sz : Nat} (h : MapAt w b f sz) : b < w.heap.size := by
  obtain ⟨D, hown, _⟩ := h
  exact hown.lt

theorem MapAt.store {w : World} {b : Nat} {f : ByteArray → Option ByteArray} {sz : Nat} (h : MapAt w b f sz) {s v : ByteArray} (hs : s.size ≤ maxLen) (hv : v.size ≤ maxLen) (hsz : sz < maxLen) :
    ∃ w', (Instr.mapUpdate 28 (.map (some b)) (.string s) (.string v)).run Yba.prog w = .ok () w' ∧ MapAt w' b (upd f s v) (if (f s).isSome then sz else sz + 1) ∧ w.mapTurned w' b := by
  obtain ⟨D, hown, hz, hrep⟩ := h
  obtain ⟨w', hrun, hown', ht⟩ := hown.store law9 Yba.underlying28 hsz (keyOf_string_mk (s := s) Yba.underlying9 hs) (plainElem_string Yba.underlying9 hv)
  have hsize : Maps.size (D.put (.string s.data.toList) (.lit (.string v.data.toList))) = if (f s).isSome then sz else sz + 1 := by
    rw [size_put (hown.tidy law9), (hrep s hs).1, hz]
  refine ⟨w', hrun, ⟨_, by rw [← hsize]; exact own_tight hown', hsize, fun t ht' => ?_⟩, ht⟩
  by_cases e : t = s
  · subst e
    refine ⟨by rw [has_put_same hown.isMap (by trivial)]; simp [upd], fun x hx z => ?_⟩
    rw [atKey_put_same hown.isMap (by trivial)]
    simp [upd] at hx; subst hx; rfl
  · have hne : (Lit.string t.data.toList) ≠ .string s.data.toList := fun h => e (ba_ext (by simpa using h))
    refine ⟨by rw [has_put_other hne]; simp [upd, e, (hrep t ht').1], fun x hx z => ?_⟩
    rw [atKey_put_other hne]
    simp [upd, e] at hx
    exact (hrep t ht').2 x hx z

theorem MapAt.made (w : World) : MapAt (w.alloc (.map #[] 0)) w.heap.size (fun _ => none) 0 :=
  ⟨.map [], World.ownsMap_made w _ _ _, rfl, fun s hs => ⟨rfl, fun v hv => by cases hv⟩⟩

theorem MapAt.kept {w w' : World} {b : Nat} {f : ByteArray → Option ByteArray} {sz : Nat} (h : MapAt w b f sz) (hb : w'.heap[b]? = w.heap[b]?) : MapAt w' b f sz := by
  obtain ⟨D, ⟨es, clock, hh, r⟩, r2⟩ := h
  exact ⟨D, ⟨es, clock, hb.trans hh, r⟩, r2⟩

theorem MapAt.ne {w : World} {b : Nat} {f : ByteArray → Option ByteArray} {sz : Nat} (h : MapAt w b f sz) {a : Addr} {v : Value} (hc : w.cell? a = some v) : b ≠ a.block := by
  obtain ⟨D, ⟨es, clock, hh, r⟩, r2⟩ := h
  intro e
  simp [World.cell?, ← e, hh] at hc

/-- THE VALUE v IN THE FIELD: nil, or a map that is not empty. -/
def MapIs (B : Nat) (w : World) (mv : Value) (f : ByteArray → Option ByteArray) (sz : Nat) : Prop :=
  (mv = .map none ∧ (∀ s, f s = none) ∧ sz = 0) ∨ ∃ b, mv = .map (some b) ∧ B ≤ b ∧ MapAt w b f sz ∧ 0 < sz

theorem MapIs.look {B : Nat} {w : World} {mv : Value} {f : ByteArray → Option ByteArray} {sz : Nat} (h : MapIs B w mv f sz) {s : ByteArray} (hs : s.size ≤ maxLen) :
    (Instr.lookup 28 mv (.string s) true).run Yba.prog w = .ok (.tuple #[.string ((f s).getD ⟨#[]⟩), .bool (f s).isSome]) w := by
  rcases h with ⟨rfl, hf, _⟩ | ⟨b, rfl, _, h, _⟩
  · rw [Maps.look_nil true law9 Yba.underlying28 (zero9 w) (keyOf_string_mk (s := s) Yba.underlying9 hs), hf]
    rfl
  · exact h.look hs

theorem MapIs.len {B : Nat} {w : World} {mv : Value} {f : ByteArray → Option ByteArray} {sz : Nat} (h : MapIs B w mv f sz) (ty : TypeId) : (Builtin.len_ #[28] ty #[mv]).run Yba.prog w = .ok (.int .i64 sz) w := by
  rcases h with ⟨rfl, hf, rfl⟩ | ⟨b, rfl, _, h, _⟩
  · exact Maps.len_nil Yba.underlying28 ty
  · exact h.len ty

theorem MapIs.nil {B : Nat} {w w' : World} {mv : Value} {f : ByteArray → Option ByteArray} {sz : Nat} (h : MapIs B w mv f sz) : (binOp .eql 28 mv (.map none)).run Yba.prog w' = .ok (.bool (sz == 0)) w' := by
  rcases h with ⟨rfl, hf, rfl⟩ | ⟨b, rfl, _, h, h0⟩
  · exact run_eql_map_nil w' 28 9 9 none Yba.underlying28
  · rw [run_eql_map_nil w' 28 9 9 (some b) Yba.underlying28]
    have : (sz == 0) = false := by simp; omega
    rw [this]; rfl

theorem MapIs.kept {B : Nat} {w w' : World} {mv : Value} {f : ByteArray → Option ByteArray} {sz : Nat} (h : MapIs B w mv f sz) (hb : ∀ b, b < w.heap.size → mv = .map (some b) → w'.heap[b]? = w.heap[b]?) : MapIs B w' mv f sz := by
  rcases h with h | ⟨b, rfl, hB, h, h0⟩
  · exact .inl h
  · exact .inr ⟨b, rfl, hB, h.kept (hb b h.lt rfl), h0⟩

theorem MapIs.ne {B : Nat} {w : World} {b : Nat} {f : ByteArray → Option ByteArray} {sz : Nat} (h : MapIs B w (.map (some b)) f sz) {a : Addr} {v : Value} (hc : w.cell? a = some v) : b ≠ a.block := by
  rcases h with ⟨h, _⟩ | ⟨b', e, hB, h, h0⟩
  · cases h
  · cases e; exact h.ne hc

/-- THE SLICE v OF w SPELLS s. -/
def Spells (w : World) (v : Value) (s : ByteArray) : Prop :=
  ∃ b cap, v = .slice (some ⟨b, 0, none⟩) s.size cap ∧ ∀ j, j < s.size → w.cell? ⟨b, j, none⟩ = some (.int .u8 (s.data.toList.getD j 0).toNat)

theorem spells_made (w : World) (s : ByteArray) : Spells (Lib.bytesWorld w 5 s) (.slice (some ⟨w.heap.size, 0, none⟩) s.size (grownCap w s.size 0 5)) s :=
  ⟨_, _, rfl, fun j hj => Lib.bytesWorld_cell w 5 s j hj⟩

theorem Spells.later {w w' : World} {v : Value} {s : ByteArray} (h : Spells w v s) (hs : ∀ a u, w.cell? a = some (.int .u8 u) → w'.cell? a = some (.int .u8 u)) : Spells w' v s := by
  obtain ⟨b, cap, rfl, hc⟩ := h
  exact ⟨b, cap, rfl, fun j hj => hs _ _ (hc j hj)⟩

theorem Spells.conv {w : World} {v : Value} {s : ByteArray} (h : Spells w v s) : (convert 27 9 v).run Yba.prog w = .ok (.string s) w := by
  obtain ⟨b, cap, rfl, hc⟩ := h
  have key := run_convert_bytes_arg w 27 5 Yba.underlying27 Yba.underlying5 b 0 s.size cap (s.data.toList.map fun x => (x.toNat : Int)) (by rw [List.length_map]; rfl) (fun i hi => by
    rw [Nat.zero_add, hc i hi]
    have hi' : i < s.data.toList.length := hi
    simp [List.getD_eq_getElem?_getD, List.getElem?_eq_getElem hi']) 9 Yba.underlying9
  rw [key]
  have : strOfNums (s.data.toList.map fun x => (x.toNat : Int)) = s := by
    apply ba_ext
    rw [strOfNums_data, List.map_map]
    exact (List.map_congr_left (fun x _ => by simp)).trans (List.map_id _)
  rw [this]

/-- WHAT STAYS while the reader's map is turned: every cell but the field's; every block of cells but the reader's; what may be written; what lies below B. -/
structure Keeps (B rb : Nat) (w w' : World) : Prop where
  block : ∀ i c t fr, i ≠ rb → w.heap[i]? = some (.cells c t fr) → w'.heap[i]? = some (.cells c t fr)
  cell : ∀ a u, a ≠ ⟨rb, 9, none⟩ → w.cell? a = some u → w'.cell? a = some u
  frozen : ∀ a, w'.frozen? a = w.frozen? a
  below : Below B w w'

theorem Keeps.refl (B rb : Nat) (w : World) : Keeps B rb w w := ⟨fun _ _ _ _ _ h => h, fun _ _ _ h => h, fun _ => rfl, Below.refl _ _⟩
theorem Keeps.trans {B rb : Nat} {w w' w'' : World} (h : Keeps B rb w w') (h' : Keeps B rb w' w'') : Keeps B rb w w'' :=
  ⟨fun i c t fr hi hh => h'.block i c t fr hi (h.block i c t fr hi hh), fun a u ha hh => h'.cell a u ha (h.cell a u ha hh), fun a => (h'.frozen a).trans (h.frozen a), h.below.trans h'.below⟩
theorem Keeps.drewN {B rb : Nat} {w w' : World} (h : Keeps B rb w w') (n : Nat) : Keeps B rb w (w'.drewN n) :=
  ⟨h.block, h.cell, h.frozen, below_drewN h.below n⟩

theorem keeps_made {B rb : Nat} (w : World) (hB : B ≤ w.heap.size) : Keeps B rb w (w.alloc (.map #[] 0)) :=
  ⟨fun i c t fr _ hh => by rw [Below.heap_alloc _ _ _ (Array.getElem?_eq_some_iff.1 hh).1]; exact hh, fun a u _ hh => Lib.cell?_alloc_some _ hh, fun a => frozen?_alloc_map _ _ _ a, (Below.refl _ _).alloc hB _⟩

theorem keeps_field {B rb : Nat} (w : World) (hB : B ≤ rb) (v : Value) : Keeps B rb w (w.setCell ⟨rb, 9, none⟩ v) :=
  ⟨fun i c t fr hi hh => by rw [Below.heap_setCell _ _ _ _ hi]; exact hh, fun a u ha hh => by rw [World.cell?_setCell_other _ _ _ _ (Ne.symm ha)]; exact hh, fun a => World.frozen?_setCell _ _ _ _, (Below.refl _ _).setCell hB _⟩

theorem keeps_turned {B rb b : Nat} {w w' : World} (h : w.mapTurned w' b) (hB : B ≤ b) (hs : B ≤ w.heap.size) : Keeps B rb w w' := by
  have hfr := fun a => h.frozen a
  have hg := h.grown
  obtain ⟨es, clock, es', clock', hb, rfl⟩ := h
  have hoth : ∀ i c t fr, w.heap[i]? = some (Obj.cells c t fr) → (ChangeMaps.setBlock w b (Obj.map es' clock')).heap[i]? = some (Obj.cells c t fr) := fun i c t fr hh => by
    rw [ChangeMaps.heap_setBlock_other hb _ (fun e => by rw [e, hb] at hh; cases hh)]; exact hh
  refine ⟨fun i c t fr _ hh => hoth i c t fr hh, fun a u _ hh => ?_, hfr, (Below.refl _ _).grown hg hs (fun k hk => by cases hk; exact hB)⟩
  have hne : a.block ≠ b := fun e => by simp [World.cell?, e, hb] at hh
  rw [World.cell?_of_block (w := w) (ChangeMaps.heap_setBlock_other hb _ hne)]
  exact hh

end Go.Proofs.Ybulkchsq
