/-
  THE SEAT b4189a: the reader between two texts; one text interned.
-/
import Derived.Test.YbulkchsqIntern
namespace Go.Proofs.Ybulkchsq
open Go.RowKit Go.Maps Go.WideMaps Go.ChangeMaps
set_option linter.unusedVariables false

/-- THE READER IN BLOCK rb: its map answers as f, sz entries. -/
structure Rd (B rb : Nat) (w : World) (mv : Value) (f : ByteArray → Option ByteArray) (sz : Nat) : Prop where
  c6 : ∃ v, w.cell? ⟨rb, 6, none⟩ = some v
  c9 : w.cell? ⟨rb, 9, none⟩ = some mv
  f6 : w.frozen? ⟨rb, 6, none⟩ = false
  f9 : w.frozen? ⟨rb, 9, none⟩ = false
  hB : B ≤ rb
  map : MapIs B w mv f sz

theorem cell_lt {w : World} {a : Addr} {v : Value} (h : w.cell? a = some v) : a.block < w.heap.size := by
  rcases Nat.lt_or_ge a.block w.heap.size with h' | h'
  · exact h'
  · simp [World.cell?, Array.getElem?_eq_none h'] at h

theorem Rd.lt {B rb : Nat} {w : World} {mv : Value} {f : ByteArray → Option ByteArray} {sz : Nat} (h : Rd B rb w mv f sz) : rb < w.heap.size := cell_lt h.c9

theorem Rd.later {B rb : Nat} {w w' : World} {mv : Value} {f : ByteArray → Option ByteArray} {sz : Nat} (h : Rd B rb w mv f sz) (hb : Below w.heap.size w w') : Rd B rb w' mv f sz := by
  have hlt := h.lt
  obtain ⟨⟨v, c6⟩, c9, f6, f9, hB, map⟩ := h
  exact ⟨⟨v, by rw [hb.cell (p := ⟨rb, 6, none⟩) hlt]; exact c6⟩, by rw [hb.cell (p := ⟨rb, 9, none⟩) hlt]; exact c9, by rw [hb.frozen (p := ⟨rb, 6, none⟩) hlt]; exact f6, by rw [hb.frozen (p := ⟨rb, 9, none⟩) hlt]; exact f9, hB, map.kept (fun b hlt _ => hb.block b hlt)⟩

theorem below_bytes (w : World) (s : ByteArray) : Below w.heap.size w (Lib.bytesWorld w 5 s) :=
  ⟨rfl, rfl, rfl, by rw [Lib.bytesWorld_size]; omega, fun k hk => Lib.bytesWorld_at_old w 5 s k hk⟩

/-- the world behind 'r.str = []byte(s)'. -/
abbrev strWorld (w : World) (rb : Nat) (s : ByteArray) : World := (Lib.bytesWorld w 5 s).setCell ⟨rb, 6, none⟩ (.slice (some ⟨w.heap.size, 0, none⟩) s.size (grownCap w s.size 0 5))

theorem Rd.str {B rb : Nat} {w : World} {mv : Value} {f : ByteArray → Option ByteArray} {sz : Nat} (h : Rd B rb w mv f sz) (s : ByteArray) :
    Rd B rb (strWorld w rb s) mv f sz ∧ (strWorld w rb s).cell? ⟨rb, 6, none⟩ = some (.slice (some ⟨w.heap.size, 0, none⟩) s.size (grownCap w s.size 0 5)) ∧ Spells (strWorld w rb s) (.slice (some ⟨w.heap.size, 0, none⟩) s.size (grownCap w s.size 0 5)) s := by
  have hlt := h.lt
  obtain ⟨⟨v, c6⟩, c9, f6, f9, hB, map⟩ := h.later (below_bytes w s)
  have hne : ∀ b, mv = .map (some b) → b ≠ rb := fun b e => by subst e; exact map.ne c9
  have c6' : (strWorld w rb s).cell? ⟨rb, 6, none⟩ = some (.slice (some ⟨w.heap.size, 0, none⟩) s.size (grownCap w s.size 0 5)) := World.cell?_setCell_same _ _ (v := _) (u := v) c6
  refine ⟨⟨⟨_, c6'⟩, ?_, ?_, ?_, hB, ?_⟩, c6', ?_⟩
  · rw [World.cell?_setCell_other _ _ _ _ (by simp)]; exact c9
  · rw [World.frozen?_setCell]; exact f6
  · rw [World.frozen?_setCell]; exact f9
  · exact map.kept (fun b _ e => Below.heap_setCell _ _ _ _ (hne b e))
  · obtain ⟨b, cap, e, hc⟩ := spells_made w s
    simp only [Value.slice.injEq, Option.some.injEq, Addr.mk.injEq] at e
    obtain ⟨⟨rfl, _⟩, _, rfl⟩ := e
    refine ⟨_, _, rfl, fun j hj => ?_⟩
    rw [World.cell?_setCell_other _ _ _ _ (fun h => by have := congrArg Addr.block h; simp at this; omega)]
    exact hc j hj

theorem str_below {B rb : Nat} {w : World} (s : ByteArray) (hB : B ≤ rb) (hw : B ≤ w.heap.size) : Below B w (strWorld w rb s) := ((below_bytes w s).mono hw).setCell hB _

def nextF (f : ByteArray → Option ByteArray) (sz : Nat) (s : ByteArray) : ByteArray → Option ByteArray := if (f s).isSome = true ∨ 256 ≤ sz then f else upd f s s
def nextSz (f : ByteArray → Option ByteArray) (sz : Nat) (s : ByteArray) : Nat := if (f s).isSome = true ∨ 256 ≤ sz then sz else sz + 1

/-- WHAT ONE CALL OF intern LEAVES. -/
def Interned (B rb : Nat) (w w' : World) (f : ByteArray → Option ByteArray) (sz : Nat) (s : ByteArray) : Prop :=
  ∃ mv', Rd B rb w' mv' (nextF f sz s) (nextSz f sz s) ∧ Keeps B rb w w'

theorem intern_any (B rb : Nat) (v mv : Value) (s : ByteArray) (f : ByteArray → Option ByteArray) (sz : Nat) (w : World) (hs : s.size ≤ maxLen) (hr : Rd B rb w mv f sz) (hv : Spells w v s) (c6 : w.cell? ⟨rb, 6, none⟩ = some v) (hBs : B ≤ w.heap.size) :
    Calls Yba.prog 6 #[.pointer (some ⟨rb, 0, none⟩)] w fun e w' => e = .returned (.string ((f s).getD s)) ∧ Interned B rb w w' f sz s := by
  have same : ∀ m, (f s).isSome = true ∨ 256 ≤ sz → Interned B rb w (w.drewN m) f sz s := fun m h => by
    refine ⟨mv, ?_, (Keeps.refl B rb w).drewN m⟩
    simp only [nextF, nextSz, if_pos h]
    exact ⟨hr.c6, hr.c9, hr.f6, hr.f9, hr.hB, hr.map⟩
  have more : ∀ w', f s = none → sz < 256 → Stored B rb w w' f sz s → Interned B rb w w' f sz s := fun w' hf h256 h => by
    obtain ⟨mv', hc, hm, hk⟩ := h
    refine ⟨mv', ?_, hk⟩
    have hno : ¬ ((f s).isSome = true ∨ 256 ≤ sz) := by rw [hf]; simp; omega
    simp only [nextF, nextSz, if_neg hno]
    exact ⟨⟨v, hk.cell _ _ (by simp) c6⟩, hc, (hk.frozen _).trans hr.f6, (hk.frozen _).trans hr.f9, hr.hB, hm⟩
  cases hf : f s with
  | some r =>
    refine (intern_hit B rb v mv s r f sz w hs hv c6 hr.c9 hr.map hf).mono ?_
    rintro e w' ⟨rfl, m, rfl⟩
    exact ⟨rfl, same m (.inl (by rw [hf]; rfl))⟩
  | none =>
    by_cases h256 : 256 ≤ sz
    · refine (intern_full B rb v mv s f sz w hs hv c6 hr.c9 hr.map hf h256).mono ?_
      rintro e w' ⟨rfl, m, rfl⟩
      exact ⟨rfl, same m (.inr h256)⟩
    · have hm := hr.map
      rcases hm with ⟨rfl, hf0, rfl⟩ | ⟨b, rfl, hb, hat, h0⟩
      · refine (intern_first B rb v s f w hs hv c6 hr.c9 hr.f9 hr.hB hBs hf0).mono ?_
        rintro e w' ⟨rfl, hst⟩
        exact ⟨rfl, more w' hf (by omega) hst⟩
      · refine (intern_more B rb b v s f sz w hs hv c6 hr.c9 hb hBs hat h0 hf (by omega)).mono ?_
        rintro e w' ⟨rfl, hst⟩
        exact ⟨rfl, more w' hf (by omega) hst⟩

end Go.Proofs.Ybulkchsq
