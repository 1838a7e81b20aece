/-
  THE SEAT b4189a: the law's two lists beside the reader: what each step leaves.
-/
import Derived.Test.YbulkchsqFind
import Derived.Maps.AppendAt
namespace Go.Proofs.Ybulkchsq
open Go.RowKit Go.Maps Go.WideMaps Go.ChangeMaps
set_option linter.unusedVariables false
set_option linter.unusedSimpArgs false

/-- THE TWO LISTS, in rows of the call's own, apart from one another and from the reader. -/
structure Two (B rb : Nat) (w : World) (kv vv : Value) (ks vs : List ByteArray) : Prop where
  ok : w.ownsRow B 9 1 kv ks.length (ks.map Value.string)
  ov : w.ownsRow B 9 1 vv vs.length (vs.map Value.string)
  apart : ∀ g, kv.ownBlock = some g → vv.ownBlock ≠ some g
  kne : kv.ownBlock ≠ some rb
  vne : vv.ownBlock ≠ some rb

theorem Two.start (B rb : Nat) (w : World) : Two B rb w (.slice none 0 0) (.slice none 0 0) [] [] :=
  ⟨World.ownsRow_nil w _ _ _, World.ownsRow_nil w _ _ _, (fun g h => by cases h), (by simp [Value.ownBlock]), (by simp [Value.ownBlock])⟩

theorem Two.grown {B rb : Nat} {w w' : World} {kv vv : Value} {ks vs : List ByteArray} {row : Option Nat} (h : Two B rb w kv vv ks vs) (hg : w.grownBy w' row) (h1 : ∀ g, row = some g → kv.ownBlock ≠ some g ∧ vv.ownBlock ≠ some g) : Two B rb w' kv vv ks vs := by
  have key : ∀ v : Value, (∀ g, row = some g → v.ownBlock ≠ some g) → v.ownBlock = none ∨ v.ownBlock ≠ row := fun v hv => by
    cases hb : v.ownBlock with
    | none => exact .inl rfl
    | some g => exact .inr (fun e => hv g e.symm hb)
  exact ⟨h.ok.kept hg (key kv fun g e => (h1 g e).1), h.ov.kept hg (key vv fun g e => (h1 g e).2), h.apart, h.kne, h.vne⟩

theorem Two.new {B rb : Nat} {w w' : World} {kv vv : Value} {ks vs : List ByteArray} (h : Two B rb w kv vv ks vs) (hg : w.grownBy w' none) : Two B rb w' kv vv ks vs := h.grown hg (fun g e => by cases e)

theorem grown_below {w w' : World} (h : Below w.heap.size w w') : w.grownBy w' none := ⟨h.os, h.tape, h.output, h.size, fun i hi _ => h.block i hi⟩

theorem own_block {w : World} {B n : Nat} {v : Value} {xs : List Value} (h : w.ownsRow B 9 1 v n xs) {g : Nat} (hg : v.ownBlock = some g) : ∃ cur, w.heap[g]? = some (.cells cur 9 (0, 0)) := by
  rcases h.2 with ⟨rfl, _⟩ | ⟨g', cap, cur, rfl, _, hh, _⟩
  · cases hg
  · cases hg; exact ⟨cur, hh⟩

theorem Two.keeps {B rb : Nat} {w w' : World} {kv vv : Value} {ks vs : List ByteArray} (h : Two B rb w kv vv ks vs) (hk : Keeps B rb w w') : Two B rb w' kv vv ks vs := by
  have key : ∀ (v : Value) (n : Nat) (xs : List Value), v.ownBlock ≠ some rb → w.ownsRow B 9 1 v n xs → w'.ownsRow B 9 1 v n xs := fun v n xs hne ho => by
    refine ⟨ho.1, ?_⟩
    rcases ho.2 with h1 | ⟨g, cap, cur, rfl, hb, hh, r⟩
    · exact .inl h1
    · exact .inr ⟨g, cap, cur, rfl, hb, hk.block g cur 9 (0, 0) (fun e => hne (by rw [← e]; rfl)) hh, r⟩
  exact ⟨key _ _ _ h.kne h.ok, key _ _ _ h.vne h.ov, h.apart, h.kne, h.vne⟩

theorem Two.lt {B rb : Nat} {w : World} {kv vv : Value} {ks vs : List ByteArray} (h : Two B rb w kv vv ks vs) : (∀ g, kv.ownBlock = some g → g < w.heap.size) ∧ ∀ g, vv.ownBlock = some g → g < w.heap.size :=
  ⟨fun g e => (h.ok.lt g e).2, fun g e => (h.ov.lt g e).2⟩

/-- 'keys = append(keys, s)' -/
theorem Two.pushK {B rb : Nat} {w w' : World} {kv vv kv' : Value} {ks vs : List ByteArray} {s : ByteArray} {o : Obj} (h : Two B rb w kv vv ks vs) (hrb : rb < w.heap.size)
    (hown : w'.ownsRow B 9 1 kv' (ks.length + 1) (ks.map Value.string ++ [.string s])) (hg : (w.alloc o).grownBy w' kv.ownBlock) (hat : kv'.ownBlock = kv.ownBlock ∨ kv'.ownBlock = some (w.heap.size + 1)) : Two B rb w' kv' vv (ks ++ [s]) vs := by
  have h1 := h.new (World.grownBy_alloc w o none)
  have hlt := h.lt
  refine ⟨by simpa using hown, h1.ov.kept hg ?_, fun g e => ?_, ?_, h.vne⟩
  · cases hb : vv.ownBlock with
    | none => exact .inl rfl
    | some g => exact .inr (fun e => h.apart g e.symm hb)
  · rcases hat with hat | hat
    · rw [hat] at e; exact h.apart g e
    · rw [hat] at e; cases e
      intro e2; have := hlt.2 _ e2; omega
  · rcases hat with hat | hat
    · rw [hat]; exact h.kne
    · rw [hat]; simp; omega

/-- 'vals = append(vals, v)' -/
theorem Two.pushV {B rb : Nat} {w w' : World} {kv vv vv' : Value} {ks vs : List ByteArray} {s : ByteArray} {o : Obj} (h : Two B rb w kv vv ks vs) (hrb : rb < w.heap.size)
    (hown : w'.ownsRow B 9 1 vv' (vs.length + 1) (vs.map Value.string ++ [.string s])) (hg : (w.alloc o).grownBy w' vv.ownBlock) (hat : vv'.ownBlock = vv.ownBlock ∨ vv'.ownBlock = some (w.heap.size + 1)) : Two B rb w' kv vv' ks (vs ++ [s]) := by
  have h1 := h.new (World.grownBy_alloc w o none)
  have hlt := h.lt
  refine ⟨h1.ok.kept hg ?_, by simpa using hown, fun g e => ?_, h.kne, ?_⟩
  · cases hb : kv.ownBlock with
    | none => exact .inl rfl
    | some g => exact .inr (fun e => h.apart g hb e.symm)
  · rcases hat with hat | hat
    · rw [hat]; exact h.apart g e
    · rw [hat]
      intro e2; cases e2; have := hlt.1 _ e; omega
  · rcases hat with hat | hat
    · rw [hat]; exact h.vne
    · rw [hat]; simp; omega

/-- 'vals[j] = v' -/
theorem Two.setV {B rb g cap j : Nat} {w : World} {kv : Value} {ks vs : List ByteArray} (h : Two B rb w kv (.slice (some ⟨g, 0, none⟩) vs.length cap) ks vs) (v : ByteArray) :
    Two B rb (w.setCell ⟨g, j, none⟩ (.string v)) kv (.slice (some ⟨g, 0, none⟩) vs.length cap) ks (vs.set j v) ∧ w.grownBy (w.setCell ⟨g, j, none⟩ (.string v)) (some g) := by
  obtain ⟨h1, h2⟩ := h.ov.stored j (.string v)
  refine ⟨⟨h.ok.kept h2 ?_, by simpa [List.map_set] using h1, h.apart, h.kne, h.vne⟩, h2⟩
  cases hb : kv.ownBlock with
  | none => exact .inl rfl
  | some g' => exact .inr (fun e => by cases e; exact h.apart g hb rfl)

theorem Rd.grown {B rb : Nat} {w w' : World} {mv : Value} {f : ByteArray → Option ByteArray} {sz : Nat} {row : Option Nat} (h : Rd B rb w mv f sz) (hg : w.grownBy w' row) (hr : row ≠ some rb) (hm : ∀ b, mv = .map (some b) → row ≠ some b) : Rd B rb w' mv f sz := by
  have hlt := h.lt
  have hb := hg.block rb hlt (Ne.symm hr)
  obtain ⟨⟨v, c6⟩, c9, f6, f9, hB, map⟩ := h
  exact ⟨⟨v, by rw [World.cell?_of_block (w := w) hb]; exact c6⟩, by rw [World.cell?_of_block (w := w) hb]; exact c9, by rw [World.frozen?_of_block (w := w) hb]; exact f6, by rw [World.frozen?_of_block (w := w) hb]; exact f9, hB, map.kept (fun b hlt e => hg.block b hlt (Ne.symm (hm b e)))⟩

theorem own_ne_map {w : World} {B n : Nat} {v : Value} {xs : List Value} (h : w.ownsRow B 9 1 v n xs) {b : Nat} {f : ByteArray → Option ByteArray} {sz : Nat} (hm : MapAt w b f sz) : v.ownBlock ≠ some b := fun e => by
  obtain ⟨cur, hc⟩ := own_block h e
  obtain ⟨D, ⟨es, clock, hh, _⟩, _⟩ := hm
  rw [hc] at hh; cases hh

theorem Rd.own {B rb n : Nat} {w w' : World} {mv v : Value} {f : ByteArray → Option ByteArray} {sz : Nat} {xs : List Value} (h : Rd B rb w mv f sz) (ho : w.ownsRow B 9 1 v n xs) (hv : v.ownBlock ≠ some rb) (hg : w.grownBy w' v.ownBlock) : Rd B rb w' mv f sz :=
  h.grown hg hv (fun b e => by
    rcases h.map with ⟨e2, _⟩ | ⟨b', e2, _, hm, _⟩
    · rw [e2] at e; cases e
    · rw [e2] at e; cases e; exact own_ne_map ho hm)

/-- THE READER WITH A MAP IN BLOCK b, empty or not. -/
structure RdM (B rb : Nat) (w : World) (b : Nat) (f : ByteArray → Option ByteArray) (sz : Nat) : Prop where
  c6 : ∃ v, w.cell? ⟨rb, 6, none⟩ = some v
  c9 : w.cell? ⟨rb, 9, none⟩ = some (.map (some b))
  f6 : w.frozen? ⟨rb, 6, none⟩ = false
  f9 : w.frozen? ⟨rb, 9, none⟩ = false
  hB : B ≤ rb
  hb : B ≤ b
  map : MapAt w b f sz

theorem RdM.lt {B rb b : Nat} {w : World} {f : ByteArray → Option ByteArray} {sz : Nat} (h : RdM B rb w b f sz) : rb < w.heap.size := cell_lt h.c9

theorem RdM.grown {B rb b : Nat} {w w' : World} {f : ByteArray → Option ByteArray} {sz : Nat} {row : Option Nat} (h : RdM B rb w b f sz) (hg : w.grownBy w' row) (hr : row ≠ some rb) (hm : row ≠ some b) : RdM B rb w' b f sz := by
  have hlt := h.lt
  have hbk := hg.block rb hlt (Ne.symm hr)
  obtain ⟨⟨v, c6⟩, c9, f6, f9, hB, hb, map⟩ := h
  exact ⟨⟨v, by rw [World.cell?_of_block (w := w) hbk]; exact c6⟩, by rw [World.cell?_of_block (w := w) hbk]; exact c9, by rw [World.frozen?_of_block (w := w) hbk]; exact f6, by rw [World.frozen?_of_block (w := w) hbk]; exact f9, hB, hb, map.kept (hg.block b map.lt (Ne.symm hm))⟩

theorem RdM.own {B rb b n : Nat} {w w' : World} {v : Value} {f : ByteArray → Option ByteArray} {sz : Nat} {xs : List Value} (h : RdM B rb w b f sz) (ho : w.ownsRow B 9 1 v n xs) (hv : v.ownBlock ≠ some rb) (hg : w.grownBy w' v.ownBlock) : RdM B rb w' b f sz :=
  h.grown hg hv (own_ne_map ho h.map)

theorem RdM.put {B rb b : Nat} {w w' : World} {f : ByteArray → Option ByteArray} {sz : Nat} {f' : ByteArray → Option ByteArray} {sz' : Nat} (h : RdM B rb w b f sz) (hm : MapAt w' b f' sz') (ht : w.mapTurned w' b) : RdM B rb w' b f' sz' := by
  have hlt := h.lt
  have hne : rb ≠ b := fun e => (h.map.ne h.c9) e.symm
  have hbk := ht.grown.block rb hlt (by simpa using hne)
  obtain ⟨⟨v, c6⟩, c9, f6, f9, hB, hb, map⟩ := h
  exact ⟨⟨v, by rw [World.cell?_of_block (w := w) hbk]; exact c6⟩, by rw [World.cell?_of_block (w := w) hbk]; exact c9, by rw [World.frozen?_of_block (w := w) hbk]; exact f6, by rw [World.frozen?_of_block (w := w) hbk]; exact f9, hB, hb, hm⟩

theorem RdM.rd {B rb b : Nat} {w : World} {f : ByteArray → Option ByteArray} {sz : Nat} (h : RdM B rb w b f sz) (h0 : 0 < sz) : Rd B rb w (.map (some b)) f sz :=
  ⟨h.c6, h.c9, h.f6, h.f9, h.hB, .inr ⟨b, rfl, h.hb, h.map, h0⟩⟩

/-- what the lists are as lists. -/
structure Ls (ks vs : List ByteArray) : Prop where
  len : vs.length = ks.length
  nodup : ks.Nodup
  szk : ∀ s ∈ ks, s.size ≤ maxLen
  szv : ∀ s ∈ vs, s.size ≤ maxLen

theorem Ls.nil : Ls [] [] := ⟨rfl, List.nodup_nil, fun s h => by simp at h, fun s h => by simp at h⟩
theorem Ls.push {ks vs : List ByteArray} {s v : ByteArray} (h : Ls ks vs) (hs : posOf ks s = none) (h1 : s.size ≤ maxLen) (h2 : v.size ≤ maxLen) : Ls (ks ++ [s]) (vs ++ [v]) := by
  refine ⟨by simp [h.len], ?_, fun t ht => ?_, fun t ht => ?_⟩
  · rw [List.nodup_append]
    refine ⟨h.nodup, by simp, fun a ha b hb e => ?_⟩
    simp at hb; subst hb; subst e
    exact of_posOf_none hs ha
  · rcases List.mem_append.1 ht with ht | ht
    · exact h.szk t ht
    · simp at ht; subst ht; exact h1
  · rcases List.mem_append.1 ht with ht | ht
    · exact h.szv t ht
    · simp at ht; subst ht; exact h2
theorem Ls.set {ks vs : List ByteArray} {v : ByteArray} (h : Ls ks vs) (j : Nat) (h2 : v.size ≤ maxLen) : Ls ks (vs.set j v) := by
  refine ⟨by simp [h.len], h.nodup, h.szk, fun t ht => ?_⟩
  rcases List.mem_or_eq_of_mem_set ht with ht | ht
  · exact h.szv t ht
  · subst ht; exact h2

end Go.Proofs.Ybulkchsq
