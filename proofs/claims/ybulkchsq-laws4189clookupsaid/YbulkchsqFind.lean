/-
  THE SEAT b4189a: zzs4189cfind (5); the two lists as a function.
-/
import Derived.Test.YbulkchsqStep
import Derived.Laws.AppendOwn
import Derived.Laws.OwnMore
import Derived.OwnWalk
namespace Go.Proofs.Ybulkchsq
open Go.RowKit Go.Maps Go.WideMaps Go.ChangeMaps
set_option linter.unusedVariables false
set_option linter.unusedSimpArgs false

abbrev e0 : ByteArray := ⟨#[]⟩

def posOf (ks : List ByteArray) (s : ByteArray) : Option Nat := ks.findIdx? (fun t => decide (t = s))
def posI (ks : List ByteArray) (s : ByteArray) : Int := match posOf ks s with | some j => (j : Int) | none => -1

theorem posOf_some {ks : List ByteArray} {s : ByteArray} {k : Nat} (hk : k < ks.length) (he : ks.getD k e0 = s) (hb : ∀ j, j < k → ks.getD j e0 ≠ s) : posOf ks s = some k := by
  unfold posOf
  rw [List.findIdx?_eq_some_iff_getElem]
  refine ⟨hk, ?_, fun j hj => ?_⟩
  · rw [List.getD_eq_getElem?_getD, List.getElem?_eq_getElem hk] at he
    simpa using he
  · have := hb j hj
    rw [List.getD_eq_getElem?_getD, List.getElem?_eq_getElem (by omega)] at this
    simpa using this

theorem posOf_none {ks : List ByteArray} {s : ByteArray} (hb : ∀ j, j < ks.length → ks.getD j e0 ≠ s) : posOf ks s = none := by
  unfold posOf
  rw [List.findIdx?_eq_none_iff]
  intro x hx
  obtain ⟨j, hj, rfl⟩ := List.getElem_of_mem hx
  have := hb j hj
  rw [List.getD_eq_getElem?_getD, List.getElem?_eq_getElem hj] at this
  simpa using this

theorem of_posOf_some {ks : List ByteArray} {s : ByteArray} {k : Nat} (h : posOf ks s = some k) : ∃ hk : k < ks.length, ks[k] = s := by
  unfold posOf at h
  rw [List.findIdx?_eq_some_iff_getElem] at h
  obtain ⟨hk, h1, _⟩ := h
  exact ⟨hk, by simpa using h1⟩

theorem of_posOf_none {ks : List ByteArray} {s : ByteArray} (h : posOf ks s = none) : s ∉ ks := by
  unfold posOf at h
  rw [List.findIdx?_eq_none_iff] at h
  intro hm
  have := h s hm
  simp at this

theorem posOf_nodup {ks : List ByteArray} (hn : ks.Nodup) {k : Nat} (hk : k < ks.length) : posOf ks ks[k] = some k := by
  unfold posOf
  rw [List.findIdx?_eq_some_iff_getElem]
  refine ⟨hk, by simp, fun j hj => ?_⟩
  have : ks[j] ≠ ks[k] := fun e => by
    have := (List.getElem_inj hn (h₀ := by omega) (h₁ := hk)).1 e
    omega
  simpa using this

/-- the two lists as a function. -/
def lk (ks vs : List ByteArray) : ByteArray → Option ByteArray := fun s => (posOf ks s).bind fun j => vs[j]?

theorem lk_nil : lk [] [] = fun _ => none := by funext s; rfl

theorem lk_new {ks vs : List ByteArray} {s v : ByteArray} (hl : vs.length = ks.length) (hs : posOf ks s = none) : lk (ks ++ [s]) (vs ++ [v]) = upd (lk ks vs) s v := by
  funext t
  simp only [lk, upd]
  by_cases h : t = s
  · subst h
    rw [if_pos rfl]
    have : posOf (ks ++ [t]) t = some ks.length := by
      unfold posOf at hs ⊢
      rw [List.findIdx?_append, hs]
      simp
    rw [this, Option.bind_some, ← hl]
    simp
  · rw [if_neg h]
    have : posOf (ks ++ [s]) t = posOf ks t := by
      unfold posOf
      rw [List.findIdx?_append]
      have : ([s].findIdx? fun u => decide (u = t)) = none := by simp; exact fun e => h e.symm
      rw [this]
      simp
    rw [this]
    cases hp : posOf ks t with
    | none => rfl
    | some j =>
      obtain ⟨hj, _⟩ := of_posOf_some hp
      rw [Option.bind_some, Option.bind_some, List.getElem?_append_left (by omega)]

theorem lk_old {ks vs : List ByteArray} {s v : ByteArray} {j : Nat} (hl : vs.length = ks.length) (hs : posOf ks s = some j) : lk ks (vs.set j v) = upd (lk ks vs) s v := by
  obtain ⟨hj, hj2⟩ := of_posOf_some hs
  funext t
  simp only [lk, upd]
  by_cases h : t = s
  · subst h
    rw [if_pos rfl, hs, Option.bind_some]
    simp [hl, hj]
  · rw [if_neg h]
    cases hp : posOf ks t with
    | none => rfl
    | some i =>
      obtain ⟨hi, hi2⟩ := of_posOf_some hp
      have hne : j ≠ i := fun e => by subst e; exact h (hi2.symm.trans hj2)
      rw [Option.bind_some, Option.bind_some, List.getElem?_set_ne hne]

theorem lk_isSome {ks vs : List ByteArray} (hl : vs.length = ks.length) (s : ByteArray) : (lk ks vs s).isSome = (posOf ks s).isSome := by
  unfold lk
  cases hp : posOf ks s with
  | none => rfl
  | some j =>
    obtain ⟨hj, _⟩ := of_posOf_some hp
    rw [Option.bind_some, List.getElem?_eq_getElem (by omega)]
    rfl

/-- THE SLICE VALUE v READS AS THE STRINGS ss. -/
def HoldsS (w : World) (v : Value) (ss : List ByteArray) : Prop :=
  ∃ ao cap, v = .slice ao ss.length cap ∧ (ss = [] ∨ ∃ b off, ao = some ⟨b, off, none⟩ ∧ ∀ j, j < ss.length → w.cell? ⟨b, off + j, none⟩ = some (.string (ss.getD j e0)))

theorem own_holds {w : World} {B : Nat} {v : Value} {ss : List ByteArray} (h : w.ownsRow B 9 1 v ss.length (ss.map Value.string)) : HoldsS w v ss := by
  have h' := h
  rcases h.2 with ⟨rfl, h0⟩ | ⟨g, cap, cur, rfl, _⟩
  · exact ⟨none, 0, by rw [h0], .inl (List.eq_nil_of_length_eq_zero h0)⟩
  · refine ⟨_, cap, rfl, .inr ⟨g, 0, rfl, fun j hj => ?_⟩⟩
    rw [Nat.zero_add, h'.cellAt j (by omega)]
    simp [List.getD_eq_getElem?_getD, List.getElem?_eq_getElem hj]

theorem str_eq {a b : ByteArray} (h : a = b) : (a.toList == b.toList) = true := by subst h; exact beq_self_eq_true _
theorem str_ne {a b : ByteArray} (h : ¬ a = b) : (a.toList == b.toList) = false := by
  rw [ByteArray.toList_eq, ByteArray.toList_eq]
  simp only [beq_eq_false_iff_ne, ne_eq]
  exact fun e => h (ba_ext e)

theorem find_nil (ao : Option Addr) (cap : Nat) (s : ByteArray) (w : World) :
    Calls Yba.prog 5 #[.slice ao 0 cap, .string s] w fun e w' => e = .returned (.int .i64 (-1)) ∧ w' = w := by
  go_enter Yba.func5, Yba.ntmps5
  go_wp2
  refine wp_loop_rounds 1 ?_
  rw [rounds_succ]
  go_wp2
  go_ret
  exact ⟨rfl, rfl⟩

def FindRel (ss : List ByteArray) (s : ByteArray) (w : World) (i : Value) (wr : World) : Prop := ∃ k : Nat, k ≤ ss.length ∧ i = .int .i64 k ∧ wr = w ∧ ∀ j, j < k → ss.getD j e0 ≠ s

theorem find_some (b off cap : Nat) (ss : List ByteArray) (s : ByteArray) (w : World) (hl : ss.length ≤ 4096) (hc : ∀ j, j < ss.length → w.cell? ⟨b, off + j, none⟩ = some (.string (ss.getD j e0))) :
    Calls Yba.prog 5 #[.slice (some ⟨b, off, none⟩) ss.length cap, .string s] w fun e w' => e = .returned (.int .i64 (posI ss s)) ∧ w' = w := by
  go_enter Yba.func5, Yba.ntmps5
  go_wp2
  go_loopw [5] (fun i wr => FindRel ss s w i wr) (fun i _ => ss.length - (intOf i).toNat)
  case atStart => exact ⟨0, Nat.zero_le _, rfl, rfl, fun j hj => by omega⟩
  case round =>
    obtain ⟨k, hk, rfl, rfl, hb⟩ := hrel
    have HB : Hid (∀ j, j < k → ss.getD j e0 ≠ s) := hb
    clear hb
    by_cases hlt : k < ss.length
    · have h3 := hc k hlt
      have h5 : (k : Int) < (ss.length : Int) := by omega
      clear hc
      generalize hx : ss.getD k e0 = x at *
      by_cases he : x = s
      · have hq := str_eq he
        have hp : posI ss s = k := by unfold posI; rw [posOf_some hlt (hx.trans he) HB.out]
        go_wp2
        go_ret
        exact ⟨by rw [hp]; rfl, rfl⟩
      · have hq := str_ne he
        go_wp2
        go_roundw
        case rel =>
          refine ⟨k + 1, by omega, by go_num, rfl, fun j hj => ?_⟩
          rcases Nat.lt_succ_iff_lt_or_eq.1 hj with h | rfl
          · exact HB.out j h
          · rw [hx]; exact he
        case measure => simp [intOf]; omega
    · have hp : posI ss s = -1 := by unfold posI; rw [posOf_none (fun j hj => HB.out j (by omega))]
      have h5 : ¬ (k : Int) < (ss.length : Int) := by omega
      go_wp2
      go_ret
      first | exact ⟨rfl, rfl⟩ | exact ⟨by rw [hp]; rfl, rfl⟩

theorem find_any (v : Value) (ss : List ByteArray) (s : ByteArray) (w : World) (hl : ss.length ≤ 4096) (h : HoldsS w v ss) :
    Calls Yba.prog 5 #[v, .string s] w fun e w' => e = .returned (.int .i64 (posI ss s)) ∧ w' = w := by
  obtain ⟨ao, cap, rfl, h⟩ := h
  rcases h with rfl | ⟨b, off, rfl, hc⟩
  · exact find_nil ao cap s w
  · exact find_some b off cap ss s w hl hc

end Go.Proofs.Ybulkchsq
