/-
  THE SEAT b4189a: LawS4189CLimit (4): the walk.
-/
import Derived.Test.YbulkchsqStep
import Derived.Test.YbulkchsqName
namespace Go.Proofs.Ybulkchsq
open Go.RowKit Go.Maps Go.WideMaps Go.ChangeMaps
set_option linter.unusedVariables false

/-- the first c names, each by itself. -/
def fn (c : Nat) : ByteArray → Option ByteArray := fun t => if (List.range c).any (fun i => decide (nameB i = t)) then some t else none

theorem fn_zero : fn 0 = fun _ => none := rfl
theorem fn_in {c i : Nat} (h : i < c) : fn c (nameB i) = some (nameB i) := by
  unfold fn
  rw [if_pos]
  simp only [List.any_eq_true, List.mem_range, decide_eq_true_eq]
  exact ⟨i, h, rfl⟩
theorem fn_out {c i : Nat} (h : c ≤ i) : fn c (nameB i) = none := by
  unfold fn
  rw [if_neg]
  simp only [List.any_eq_true, List.mem_range, decide_eq_true_eq]
  rintro ⟨j, hj, e⟩
  have := nameB_inj e
  omega
theorem fn_succ (c : Nat) : upd (fn c) (nameB c) (nameB c) = fn (c + 1) := by
  funext t
  unfold upd
  by_cases h : t = nameB c
  · subst h
    rw [if_pos rfl, fn_in (Nat.lt_succ_self c)]
  · rw [if_neg h]
    unfold fn
    rw [List.range_succ, List.any_append]
    have : ([c].any fun i => decide (nameB i = t)) = false := by simp; exact fun e => h e.symm
    rw [this, Bool.or_false]

/-- how many are kept at name i of pass p. -/
def kept (n p i : Nat) : Nat := if p = 0 then min i 256 else min n 256

theorem next_kept {n p i : Nat} (hi : i < n) : nextF (fn (kept n p i)) (kept n p i) (nameB i) = fn (kept n p (i + 1)) ∧ nextSz (fn (kept n p i)) (kept n p i) (nameB i) = kept n p (i + 1) ∧ (fn (kept n p i) (nameB i)).getD (nameB i) = nameB i := by
  by_cases hp : p = 0
  · subst hp
    simp only [kept, if_true]
    by_cases h : i < 256
    · have e1 : min i 256 = i := by omega
      have e2 : min (i + 1) 256 = i + 1 := by omega
      rw [e1, e2]
      have hno : ¬ ((fn i (nameB i)).isSome = true ∨ 256 ≤ i) := by rw [fn_out (Nat.le_refl i)]; simp; omega
      refine ⟨by rw [nextF, if_neg hno, fn_succ], by rw [nextSz, if_neg hno], by rw [fn_out (Nat.le_refl i)]; rfl⟩
    · have e1 : min i 256 = 256 := by omega
      have e2 : min (i + 1) 256 = 256 := by omega
      rw [e1, e2]
      exact ⟨by rw [nextF, if_pos (.inr (Nat.le_refl _))], by rw [nextSz, if_pos (.inr (Nat.le_refl _))], by rw [fn_out (by omega)]; rfl⟩
  · simp only [kept, if_neg hp]
    by_cases h : i < 256
    · have hin : fn (min n 256) (nameB i) = some (nameB i) := fn_in (by omega)
      have hyes : (fn (min n 256) (nameB i)).isSome = true ∨ 256 ≤ min n 256 := .inl (by rw [hin]; rfl)
      exact ⟨by rw [nextF, if_pos hyes], by rw [nextSz, if_pos hyes], by rw [hin]; rfl⟩
    · have hyes : (fn (min n 256) (nameB i)).isSome = true ∨ 256 ≤ min n 256 := .inr (by omega)
      exact ⟨by rw [nextF, if_pos hyes], by rw [nextSz, if_pos hyes], by rw [fn_out (by omega)]; rfl⟩

/-- WHAT STANDS: the reader, its map, nothing below turned. -/
def LimRel (w : World) (c : Nat) (wr : World) : Prop := ∃ mv, Rd w.heap.size w.heap.size wr mv (fn c) c ∧ Below w.heap.size w wr

theorem lim_start (w : World) (cs : Array Value) (t : TypeId) (h6 : cs[6]? = some (.slice none 0 0)) (h9 : cs[9]? = some (.map none)) : LimRel w 0 (w.alloc (.cells cs t)) := by
  have hc : ∀ (j : Nat) (v : Value), cs[j]? = some v → (w.alloc (.cells cs t)).cell? ⟨w.heap.size, j, none⟩ = some v := fun j v h => by simp [World.cell?, World.alloc, -World.alloc_eq, h]
  have hf : ∀ j : Nat, (w.alloc (.cells cs t)).frozen? ⟨w.heap.size, j, none⟩ = false := fun j => by simp
  exact ⟨.map none, ⟨⟨_, hc 6 _ h6⟩, hc 9 _ h9, hf 6, hf 9, Nat.le_refl _, .inl ⟨rfl, fun s => rfl, rfl⟩⟩, (Below.refl _ _).alloc (Nat.le_refl _) _⟩

def OuterRel (w : World) (n : Nat) (pv : Value) (wr : World) : Prop := ∃ p : Nat, p ≤ 2 ∧ pv = .int .i64 p ∧ LimRel w (kept n p 0) wr
def InnerRel (w : World) (n p : Nat) (iv : Value) (wr : World) : Prop := ∃ i : Nat, i ≤ n ∧ iv = .int .i64 i ∧ LimRel w (kept n p i) wr
def LastRel (w : World) (n : Nat) (iv : Value) (wr : World) : Prop := ∃ i : Nat, i ≤ n ∧ iv = .int .i64 i ∧ LimRel w (min n 256) wr

theorem kept_end (n p : Nat) : kept n p n = kept n (p + 1) 0 := by
  unfold kept
  by_cases hp : p = 0 <;> simp [hp]

@[go_sem] theorem guard_map_nil (t : TypeId) (x y : Operand) (mv : Value) : eqGuard .eql t x y mv (.map none) = pure () := by cases mv <;> rfl

theorem conv_bytes (w : World) (s : ByteArray) : (convert 9 27 (.string s)).run Yba.prog w = .ok (.slice (some ⟨w.heap.size, 0, none⟩) s.size (grownCap w s.size 0 5)) (Lib.bytesWorld w 5 s) :=
  Lib.run_convert_string_bytes w 9 27 5 s Yba.underlying9 Yba.underlying27 Yba.underlying5

set_option maxRecDepth 100000 in
set_option maxHeartbeats 2000000 in
theorem limit_walk (x : Nat) (w : World) (hx : x ≤ 65535) :
    Calls Yba.prog 4 #[.int .u16 x] w fun e w' => e = .returned (.bool true) ∧ Below w.heap.size w w' := by
  obtain ⟨n, hn, hn6⟩ : ∃ n : Nat, (x : Int) % 600 = (n : Int) ∧ n < 600 := ⟨x % 600, by omega, by omega⟩
  go_enter Yba.func4, Yba.ntmps4
  go_wp2
  simp only [hn]
  clear hn
  go_loopw [5] (fun pv wr => OuterRel w n pv wr) (fun pv _ => 2 - (intOf pv).toNat)
  case atStart => exact ⟨0, by omega, rfl, lim_start w _ _ rfl rfl⟩
  case round =>
    obtain ⟨p, hp, rfl, hst⟩ := hrel
    have HL : Hid (LimRel w (kept n p 0) wr) := hst
    clear hst
    by_cases hp2 : p < 2
    · have h2 : (p : Int) < 2 := by omega
      go_wp2
      go_loopw [6] (fun iv wr => InnerRel w n p iv wr) (fun iv _ => n - (intOf iv).toNat)
      case atStart => exact ⟨0, by omega, rfl, HL.out⟩
      case round =>
        clear HL
        obtain ⟨i, hi, rfl, mv, hrd, hbel⟩ := hrel
        have HR : Hid (Rd w.heap.size w.heap.size _ mv (fn (kept n p i)) (kept n p i)) := hrd
        have HB : Hid (Below w.heap.size w _) := hbel
        clear hrd hbel
        by_cases hlt : i < n
        · have h3 : (i : Int) < (n : Int) := by omega
          go_wp2_with (go_at_call 7; refine (name_any i _ (by omega)).mono ?_)
          rintro e w1 ⟨rfl, hb1⟩
          have hr1 := HR.out.later hb1
          have hB1 : Below w.heap.size w w1 := HB.out.trans (hb1.mono HB.out.size)
          obtain ⟨hr2, hc6, hsp⟩ := hr1.str (nameB i)
          have hconv := conv_bytes w1 (nameB i)
          obtain ⟨v6, c6⟩ := (hr1.later (below_bytes w1 (nameB i))).c6
          have f6 := (hr1.later (below_bytes w1 (nameB i))).f6
          have HR2 : Hid (Rd w.heap.size w.heap.size (strWorld w1 w.heap.size (nameB i)) mv (fn (kept n p i)) (kept n p i)) := hr2
          have HC6 : Hid ((strWorld w1 w.heap.size (nameB i)).cell? ⟨w.heap.size, 6, none⟩ = some (.slice (some ⟨w1.heap.size, 0, none⟩) (nameB i).size (grownCap w1 (nameB i).size 0 5))) := hc6
          have HSP : Hid (Spells (strWorld w1 w.heap.size (nameB i)) (.slice (some ⟨w1.heap.size, 0, none⟩) (nameB i).size (grownCap w1 (nameB i).size 0 5)) (nameB i)) := hsp
          have HB2 : Hid (Below w.heap.size w (strWorld w1 w.heap.size (nameB i))) := hB1.trans (str_below (nameB i) (Nat.le_refl _) hB1.size)
          have hlen : (nameB i).size ≤ maxLen := by have := nameB_size i; unfold maxLen; omega
          clear hr1 hr2 hc6 hsp hb1 hB1 HB HR
          go_wp2_with (go_at_call 6; refine (intern_any w.heap.size w.heap.size _ mv (nameB i) (fn (kept n p i)) (kept n p i) _ hlen HR2.out HSP.out HC6.out HB2.out.size).mono ?_)
          rintro e w2 ⟨rfl, mv', hrd', hkeep⟩
          obtain ⟨e1, e2, e3⟩ := next_kept (n := n) (p := p) hlt
          rw [e1, e2] at hrd'
          have HR3 : Hid (Rd w.heap.size w.heap.size w2 mv' (fn (kept n p (i + 1))) (kept n p (i + 1))) := hrd'
          have HB3 : Hid (Below w.heap.size w w2) := HB2.out.trans hkeep.below
          clear hrd' hkeep e1 e2 HR2 HC6 HSP HB2 hconv c6 f6
          simp only [e3]
          go_wp2
          go_roundw
          case rel => exact ⟨i + 1, by omega, by go_num, mv', HR3.out, HB3.out⟩
          case measure => simp [intOf]; omega
        · have h3 : ¬ (i : Int) < (n : Int) := by omega
          obtain rfl : i = n := by omega
          go_wp2
          go_roundw
          case rel => exact ⟨p + 1, by omega, by go_num, mv, by rw [← kept_end]; exact HR.out, HB.out⟩
          case measure => simp [intOf]; omega
    · have h2 : ¬ (p : Int) < 2 := by omega
      obtain ⟨mv, hrd, hbel⟩ := HL.out
      have hk : kept n p 0 = min n 256 := by unfold kept; rw [if_neg (by omega)]
      rw [hk] at hrd
      have c9 := hrd.c9
      have hlen := fun ty => hrd.map.len ty
      have hnil := fun w' => hrd.map.nil (w' := w')
      have HR : Hid (LimRel w (min n 256) wr) := ⟨mv, hrd, hbel⟩
      clear hrd hbel hk HL
      have hcase : (256 < n ∧ min n 256 = 256) ∨ (n = 0 ∧ min n 256 = 0) ∨ (¬ 256 < n ∧ ¬ n = 0 ∧ min n 256 = n) := by omega
      rcases hcase with ⟨h256, hc⟩ | ⟨h0, hc⟩ | ⟨h256, h0, hc⟩
      · have h256' : (256 : Int) < (n : Int) := by omega
        have h0' : ((n : Int) == 0) = false := by simp; omega
        rw [hc] at hlen hnil
        have hnil' : ∀ w', (binOp .eql 28 mv (.map none)).run Yba.prog w' = .ok (.bool false) w' := hnil
        have hlen' : ∀ ty, (Builtin.len_ #[28] ty #[mv]).run Yba.prog wr = .ok (.int .i64 256) wr := hlen
        clear hlen hnil
        go_wp2
        go_loopw [9] (fun iv wr => LastRel w n iv wr) (fun iv _ => n - (intOf iv).toNat)
        case atStart => exact ⟨0, by omega, rfl, HR.out⟩
        case round =>
          clear HR hlen' hnil' c9 h256' h0'
          obtain ⟨i, hi, rfl, mv, hrd, hbel⟩ := hrel
          have HR : Hid (Rd w.heap.size w.heap.size _ mv (fn (min n 256)) (min n 256)) := hrd
          have HB : Hid (Below w.heap.size w _) := hbel
          clear hrd hbel
          by_cases hlt : i < n
          · have h3 : (i : Int) < (n : Int) := by omega
            go_wp2_with (go_at_call 7; refine (name_any i _ (by omega)).mono ?_)
            rintro e w1 ⟨rfl, hb1⟩
            have hr1 := HR.out.later hb1
            have hB1 : Below w.heap.size w w1 := HB.out.trans (hb1.mono HB.out.size)
            have hlen : (nameB i).size ≤ maxLen := by have := nameB_size i; unfold maxLen; omega
            have c9 := hr1.c9
            have hlook := hr1.map.look hlen
            have HS : Hid (LimRel w (min n 256) w1) := ⟨mv, hr1, hB1⟩
            clear hb1 hB1 HB HR hr1
            by_cases hi256 : i < 256
            · have h4 : (i : Int) < 256 := by omega
              rw [fn_in (by omega)] at hlook
              simp only [Option.getD_some, Option.isSome_some] at hlook
              go_wp2
              go_roundw
              case rel => exact ⟨i + 1, by omega, by go_num, HS.out⟩
              case measure => simp [intOf]; omega
            · have h4 : ¬ (i : Int) < 256 := by omega
              rw [fn_out (by omega)] at hlook
              simp only [Option.getD_none, Option.isSome_none] at hlook
              go_wp2
              go_roundw
              case rel => exact ⟨i + 1, by omega, by go_num, HS.out⟩
              case measure => simp [intOf]; omega
          · have h3 : ¬ (i : Int) < (n : Int) := by omega
            go_wp2
            go_ret
            exact ⟨rfl, HB.out⟩
      · subst h0
        have h0' : (((0 : Nat) : Int) == 0) = true := rfl
        have hnil' : ∀ w', (binOp .eql 28 mv (.map none)).run Yba.prog w' = .ok (.bool true) w' := hnil
        have hlen' : ∀ ty, (Builtin.len_ #[28] ty #[mv]).run Yba.prog wr = .ok (.int .i64 0) wr := hlen
        clear hlen hnil
        obtain ⟨_, _, hb0⟩ := HR.out
        have HB : Hid (Below w.heap.size w wr) := hb0
        clear hb0
        go_wp2
        refine wp_loop_rounds 1 ?_
        rw [rounds_succ]
        go_wp2
        go_ret
        exact ⟨rfl, HB.out⟩
      · have h256' : ¬ (256 : Int) < (n : Int) := by omega
        have h0' : ((n : Int) == 0) = false := by simp; omega
        have h0'' : (n == 0) = false := by simp; omega
        rw [hc] at hlen hnil
        rw [h0''] at hnil
        go_wp2
        go_loopw [9] (fun iv wr => LastRel w n iv wr) (fun iv _ => n - (intOf iv).toNat)
        case atStart => exact ⟨0, by omega, rfl, HR.out⟩
        case round =>
          clear HR hlen hnil c9 h256' h0' h0''
          obtain ⟨i, hi, rfl, mv, hrd, hbel⟩ := hrel
          have HR : Hid (Rd w.heap.size w.heap.size _ mv (fn (min n 256)) (min n 256)) := hrd
          have HB : Hid (Below w.heap.size w _) := hbel
          clear hrd hbel
          by_cases hlt : i < n
          · have h3 : (i : Int) < (n : Int) := by omega
            go_wp2_with (go_at_call 7; refine (name_any i _ (by omega)).mono ?_)
            rintro e w1 ⟨rfl, hb1⟩
            have hr1 := HR.out.later hb1
            have hB1 : Below w.heap.size w w1 := HB.out.trans (hb1.mono HB.out.size)
            have hlen : (nameB i).size ≤ maxLen := by have := nameB_size i; unfold maxLen; omega
            have c9 := hr1.c9
            have hlook := hr1.map.look hlen
            have HS : Hid (LimRel w (min n 256) w1) := ⟨mv, hr1, hB1⟩
            clear hb1 hB1 HB HR hr1
            by_cases hi256 : i < 256
            · have h4 : (i : Int) < 256 := by omega
              rw [fn_in (by omega)] at hlook
              simp only [Option.getD_some, Option.isSome_some] at hlook
              go_wp2
              go_roundw
              case rel => exact ⟨i + 1, by omega, by go_num, HS.out⟩
              case measure => simp [intOf]; omega
            · omega
          · have h3 : ¬ (i : Int) < (n : Int) := by omega
            go_wp2
            go_ret
            exact ⟨rfl, HB.out⟩

end Go.Proofs.Ybulkchsq
