/-
  THE SEAT b4189a: zzs4189cname (7): 'k' and the digits, lowest first; two numbers, two names.
-/
import Derived.Test.YbulkchsqMap
import Derived.Laws.AppendOwn
import Derived.Laws.OwnMore
import Derived.OwnWalk
namespace Go.Proofs.Ybulkchsq
open Go.RowKit Go.Maps Go.WideMaps Go.ChangeMaps
set_option linter.unusedVariables false

def digs (n : Nat) : List Int := if n < 10 then [48 + (n : Int)] else (48 + ((n % 10 : Nat) : Int)) :: digs (n / 10)
termination_by n

theorem digs_small {n : Nat} (h : n < 10) : digs n = [48 + (n : Int)] := by unfold digs; simp [h]
theorem digs_more {n : Nat} (h : ¬ n < 10) : digs n = (48 + ((n % 10 : Nat) : Int)) :: digs (n / 10) := by rw [digs]; simp [h]

def nameL (n : Nat) : List Int := 107 :: digs n
def nameB (n : Nat) : ByteArray := strOfNums (nameL n)

theorem digs_byte : ∀ (N n : Nat), n ≤ N → ∀ x ∈ digs n, 0 ≤ x ∧ x ≤ 255
  | 0, n, h, x, hx => by
    rw [digs_small (by omega)] at hx
    simp at hx; omega
  | N + 1, n, h, x, hx => by
    by_cases hn : n < 10
    · rw [digs_small hn] at hx
      simp at hx; omega
    · rw [digs_more hn] at hx
      rcases List.mem_cons.1 hx with rfl | hx
      · omega
      · exact digs_byte N (n / 10) (by omega) x hx

theorem digs_len : ∀ (N n : Nat), n ≤ N → 1 ≤ (digs n).length ∧ (digs n).length ≤ n + 1
  | 0, n, h => by rw [digs_small (by omega)]; simp
  | N + 1, n, h => by
    by_cases hn : n < 10
    · rw [digs_small hn]; simp
    · rw [digs_more hn]
      have := digs_len N (n / 10) (by omega)
      simp; omega

theorem digs_inj : ∀ (N a b : Nat), a ≤ N → digs a = digs b → a = b
  | 0, a, b, h, e => by
    rw [digs_small (by omega)] at e
    by_cases hb : b < 10
    · rw [digs_small hb] at e; simp at e; omega
    · rw [digs_more hb] at e
      have := (digs_len _ (b / 10) (Nat.le_refl _)).1
      have e2 := congrArg List.length e
      simp only [List.length_cons, List.length_nil] at e2; omega
  | N + 1, a, b, h, e => by
    by_cases ha : a < 10
    · rw [digs_small ha] at e
      by_cases hb : b < 10
      · rw [digs_small hb] at e; simp at e; omega
      · rw [digs_more hb] at e
        have := (digs_len _ (b / 10) (Nat.le_refl _)).1
        have e2 := congrArg List.length e
        simp only [List.length_cons, List.length_nil] at e2; omega
    · rw [digs_more ha] at e
      by_cases hb : b < 10
      · rw [digs_small hb] at e
        have := (digs_len _ (a / 10) (Nat.le_refl _)).1
        have e2 := congrArg List.length e
        simp only [List.length_cons, List.length_nil] at e2; omega
      · rw [digs_more hb] at e
        simp only [List.cons.injEq] at e
        have := digs_inj N (a / 10) (b / 10) (by omega) e.2
        omega

theorem map_u8_inj : ∀ (xs ys : List Int), (∀ x ∈ xs, 0 ≤ x ∧ x ≤ 255) → (∀ y ∈ ys, 0 ≤ y ∧ y ≤ 255) → xs.map (fun n => UInt8.ofNat n.toNat) = ys.map (fun n => UInt8.ofNat n.toNat) → xs = ys
  | [], [], _, _, _ => rfl
  | [], _ :: _, _, _, h => by simp at h
  | _ :: _, [], _, _, h => by simp at h
  | x :: xs, y :: ys, hx, hy, h => by
    simp only [List.map_cons, List.cons.injEq] at h
    have h1 := hx x (by simp)
    have h2 := hy y (by simp)
    have e : x = y := by
      have := congrArg UInt8.toNat h.1
      rw [UInt8.toNat_ofNat', UInt8.toNat_ofNat'] at this
      omega
    rw [e, map_u8_inj xs ys (fun z hz => hx z (by simp [hz])) (fun z hz => hy z (by simp [hz])) h.2]

theorem nameB_inj {a b : Nat} (h : nameB a = nameB b) : a = b := by
  have h1 : (strOfNums (nameL a)).data.toList = (strOfNums (nameL b)).data.toList := congrArg (fun s : ByteArray => s.data.toList) h
  rw [strOfNums_data, strOfNums_data] at h1
  have hb : ∀ n, ∀ x ∈ nameL n, 0 ≤ x ∧ x ≤ 255 := fun n x hx => by
    rcases List.mem_cons.1 hx with rfl | hx
    · omega
    · exact digs_byte n n (Nat.le_refl _) x hx
  have := map_u8_inj _ _ (hb a) (hb b) h1
  simp only [nameL, List.cons.injEq, true_and] at this
  exact digs_inj a a b (Nat.le_refl _) this

theorem nameB_size (n : Nat) : (nameB n).size ≤ n + 2 := by
  have := (digs_len n n (Nat.le_refl _)).2
  rw [nameB, strOfNums_size]
  simp [nameL]; omega

theorem info5 : (Yba.prog.info? 5).map (fun i => (i.zero, i.size, i.bytes)) = some (some (.int .u8 0), 1, 1) := by kernel_rfl

theorem own_form {w : World} {B e n : Nat} {v : Value} {xs : List Value} (h : w.ownsRow B e 1 v n xs) (hn : 0 < n) : ∃ g cap, v = .slice (some ⟨g, 0, none⟩) n cap ∧ ∀ j, j < n → w.cell? ⟨g, j, none⟩ = xs[j]? := by
  have h' := h
  rcases h.2 with ⟨_, h0⟩ | ⟨g, cap, cur, rfl, _⟩
  · omega
  · exact ⟨g, cap, rfl, fun j hj => h'.cellAt j (by omega)⟩

theorem conv_own {w : World} {B : Nat} {v : Value} {xs : List Int} (h : w.ownsRow B 5 1 v xs.length (xs.map (Value.int .u8))) (hn : 0 < xs.length) : (convert 27 9 v).run Yba.prog w = .ok (.string (strOfNums xs)) w := by
  obtain ⟨g, cap, rfl, hc⟩ := own_form h hn
  exact run_convert_bytes_arg w 27 5 Yba.underlying27 Yba.underlying5 g 0 xs.length cap xs rfl (fun i hi => by
    rw [Nat.zero_add, hc i hi]
    simp [List.getD_eq_getElem?_getD, hi]) 9 Yba.underlying9

/-- WHAT STANDS AT A ROUND's HEAD. -/
def NameRel (w : World) (n : Nat) (iv bv : Value) (wr : World) : Prop :=
  ∃ (k : Nat) (xs : List Int), iv = .int .i64 k ∧ k ≤ n ∧ wr.ownsRow w.heap.size 5 1 bv xs.length (xs.map (Value.int .u8)) ∧ xs ++ digs k = nameL n ∧ Below w.heap.size w wr

theorem name_any (n : Nat) (w : World) (hn : n ≤ 600) :
    Calls Yba.prog 7 #[.int .i64 n] w fun e w' => e = .returned (.string (nameB n)) ∧ Below w.heap.size w w' := by
  obtain ⟨i5, hi, hz0, hz1, hz2⟩ := info_parts info5
  have HS : Hid (NameRel w n (.int .i64 n) (.slice (some ⟨w.heap.size, 0, none⟩) 1 1) (w.alloc (.cells #[.int .u8 107] 5))) :=
    ⟨n, [107], rfl, Nat.le_refl _, World.ownsRow_lit w #[.int .u8 107] 1 (Nat.le_refl _) (by unfold maxLen; omega) rfl, rfl, (Below.refl _ _).alloc (Nat.le_refl _) _⟩
  go_enter Yba.func7, Yba.ntmps7
  go_wp2
  go_loopw [0, 3] (fun iv bv wr => NameRel w n iv bv wr) (fun iv _ _ => (intOf iv).toNat)
  case atStart => exact HS.out
  case round =>
    clear HS
    obtain ⟨k, xs, rfl, hk, hown, hcat, hbel⟩ := hrel
    have hxl : xs.length ≤ 700 := by
      have h1 := congrArg List.length hcat
      have h2 := (digs_len n n (Nat.le_refl _)).2
      simp [nameL] at h1; omega
    have HB : Hid (Below w.heap.size w wr) := hbel
    have HC : Hid (xs ++ digs k = nameL n) := hcat
    have hws : w.heap.size ≤ wr.heap.size := hbel.size
    have hw8 : IntKind.u8.wrap (48 + (k : Int) % 10) = 48 + (k : Int) % 10 := by rw [IntKind.wrap_u8]; omega
    have hown1 := hown.alloc (.cells #[.int .u8 (48 + (k : Int) % 10)] 5)
    clear hbel hcat hown
    have hnews : ∀ j u, [Value.int .u8 (48 + (k : Int) % 10)][j]? = some u → (wr.alloc (.cells #[.int .u8 (48 + (k : Int) % 10)] 5)).cell? ((⟨wr.heap.size, 0, none⟩ : Addr).add j) = some u := fun j u hj => by
      cases j with
      | zero => simp at hj; subst hj; simp [Addr.add]
      | succ j => simp at hj
    have hone : ∀ u ∈ [Value.int .u8 (48 + (k : Int) % 10)], u.oneCell' = true := by simp [Value.oneCell']
    have hb1 : w.heap.size ≤ (wr.alloc (.cells #[.int .u8 (48 + (k : Int) % 10)] 5)).heap.size := by rw [World.size_alloc]; omega
    have hl1 : xs.length + 1 ≤ maxLen := by unfold maxLen; omega
    have hl2 : (xs.length + 1) * 1 ≤ 140737488355328 := by omega
    go_wp2_with (at_builtin; refine wpList_append_own _ rfl _ _ 27 rfl w.heap.size 5 i5 (.int .u8 0) 1 1 Yba.underlying27 hi hz0 hz1 hz2 rfl (by decide) _ xs.length (xs.map (Value.int .u8)) rfl hown1 ⟨wr.heap.size, 0, none⟩ 1 1 [.int .u8 (48 + (k : Int) % 10)] rfl rfl hnews hone hl1 hl2 hb1 ?_)
    intro v' w' hown2 hg2 hnil2
    have hge := hown1.lt
    have HB2 : Hid (Below w.heap.size w w') := (HB.out.alloc hws _).grown hg2 hb1 (fun k hk => (hge k hk).1)
    have HO : Hid (w'.ownsRow w.heap.size 5 1 v' (xs ++ [48 + (k : Int) % 10]).length ((xs ++ [48 + (k : Int) % 10]).map (Value.int .u8))) := by
      simp only [List.map_append, List.map_cons, List.map_nil, List.length_append, List.length_cons, List.length_nil]; exact hown2
    clear hnews hone hown1 hown2 hg2 HB hge
    have hd : ((k / 10 : Nat) : Int) = (k : Int) / 10 := by omega
    by_cases hk10 : k < 10
    · have hconv := conv_own HO.out (by simp)
      have h0 : (k : Int) / 10 = 0 := by omega
      have hname : xs ++ [48 + (k : Int) % 10] = nameL n := by
        rw [← HC.out, digs_small hk10]; congr 2; omega
      rw [hname] at hconv
      go_wp2
      go_ret
      exact ⟨rfl, HB2.out⟩
    · have h0 : ((k : Int) / 10 == 0) = false := by simp; omega
      go_wp2
      go_roundw
      case rel =>
        refine ⟨k / 10, xs ++ [48 + (k : Int) % 10], by rw [hd], by omega, HO.out, ?_, HB2.out⟩
        rw [← HC.out, digs_more hk10, List.append_assoc]
        simp
      case measure => simp [intOf]; omega

end Go.Proofs.Ybulkchsq
