/-
  THE SEAT b4189a: jsonReader.intern (6).
-/
import Derived.Test.YbulkchsqMap
namespace Go.Proofs.Ybulkchsq
open Go.RowKit Go.Maps Go.WideMaps Go.ChangeMaps
set_option linter.unusedVariables false

/-- the text is there. -/
theorem intern_hit (B rb : Nat) (v mv : Value) (s r : ByteArray) (f : ByteArray → Option ByteArray) (sz : Nat) (w : World) (hs : s.size ≤ maxLen) (hv : Spells w v s) (c6 : w.cell? ⟨rb, 6, none⟩ = some v) (c9 : w.cell? ⟨rb, 9, none⟩ = some mv)
    (hm : MapIs B w mv f sz) (hf : f s = some r) :
    Calls Yba.prog 6 #[.pointer (some ⟨rb, 0, none⟩)] w fun e w' => e = .returned (.string r) ∧ ∃ m, w' = w.drewN m := by
  have k1 : ∀ m, (convert 27 9 v).run Yba.prog (w.drewN m) = .ok (.string s) (w.drewN m) := fun m => Spells.conv (w := w.drewN m) hv
  have k2 : ∀ m, (Instr.lookup 28 mv (.string s) true).run Yba.prog (w.drewN m) = .ok (.tuple #[.string r, .bool true]) (w.drewN m) := fun m => by
    have := MapIs.look (w := w.drewN m) hm hs
    rw [hf] at this; exact this
  go_enter Yba.func6, Yba.ntmps6
  go_wp2
  go_quiet (fail)
  go_wp2
  go_ret
  exact ⟨rfl, _, rfl⟩

set_option maxRecDepth 100000 in
/-- not there; no room. -/
theorem intern_full (B rb : Nat) (v mv : Value) (s : ByteArray) (f : ByteArray → Option ByteArray) (sz : Nat) (w : World) (hs : s.size ≤ maxLen) (hv : Spells w v s) (c6 : w.cell? ⟨rb, 6, none⟩ = some v) (c9 : w.cell? ⟨rb, 9, none⟩ = some mv)
    (hm : MapIs B w mv f sz) (hf : f s = none) (hsz : 256 ≤ sz) :
    Calls Yba.prog 6 #[.pointer (some ⟨rb, 0, none⟩)] w fun e w' => e = .returned (.string s) ∧ ∃ m, w' = w.drewN m := by
  have k1 : ∀ m, (convert 27 9 v).run Yba.prog (w.drewN m) = .ok (.string s) (w.drewN m) := fun m => Spells.conv (w := w.drewN m) hv
  have k2 : ∀ m, (Instr.lookup 28 mv (.string s) true).run Yba.prog (w.drewN m) = .ok (.tuple #[.string ⟨#[]⟩, .bool false]) (w.drewN m) := fun m => by
    have := MapIs.look (w := w.drewN m) hm hs
    rw [hf] at this; exact this
  have k3 : ∀ ty m, (Builtin.len_ #[28] ty #[mv]).run Yba.prog (w.drewN m) = .ok (.int .i64 sz) (w.drewN m) := fun ty m => MapIs.len (w := w.drewN m) hm ty
  have h4 : ¬ (sz : Int) < 256 := by omega
  go_enter Yba.func6, Yba.ntmps6
  go_wp2
  go_quiet (fail)
  go_wp2
  go_ret
  exact ⟨rfl, _, rfl⟩

/-- WHAT A NEW TEXT LEAVES. -/
def Stored (B rb : Nat) (w w' : World) (f : ByteArray → Option ByteArray) (sz : Nat) (s : ByteArray) : Prop :=
  ∃ mv', w'.cell? ⟨rb, 9, none⟩ = some mv' ∧ MapIs B w' mv' (upd f s s) (sz + 1) ∧ Keeps B rb w w'

/-- not there, the map is there. -/
theorem intern_more (B rb b : Nat) (v : Value) (s : ByteArray) (f : ByteArray → Option ByteArray) (sz : Nat) (w : World) (hs : s.size ≤ maxLen) (hv : Spells w v s) (c6 : w.cell? ⟨rb, 6, none⟩ = some v) (c9 : w.cell? ⟨rb, 9, none⟩ = some (.map (some b)))
    (hB : B ≤ b) (hBs : B ≤ w.heap.size) (hm : MapAt w b f sz) (h0 : 0 < sz) (hf : f s = none) (hsz : sz < 256) :
    Calls Yba.prog 6 #[.pointer (some ⟨rb, 0, none⟩)] w fun e w' => e = .returned (.string s) ∧ Stored B rb w w' f sz s := by
  have hm' : MapIs B w (.map (some b)) f sz := .inr ⟨b, rfl, hB, hm, h0⟩
  have k1 : ∀ m, (convert 27 9 v).run Yba.prog (w.drewN m) = .ok (.string s) (w.drewN m) := fun m => Spells.conv (w := w.drewN m) hv
  have k2 : ∀ m, (Instr.lookup 28 (.map (some b)) (.string s) true).run Yba.prog (w.drewN m) = .ok (.tuple #[.string ⟨#[]⟩, .bool false]) (w.drewN m) := fun m => by
    have := MapIs.look (w := w.drewN m) hm' hs
    rw [hf] at this; exact this
  have k3 : ∀ ty m, (Builtin.len_ #[28] ty #[.map (some b)]).run Yba.prog (w.drewN m) = .ok (.int .i64 sz) (w.drewN m) := fun ty m => MapIs.len (w := w.drewN m) hm' ty
  have k4 : ∀ m, (binOp .eql 28 (.map (some b)) (.map none)).run Yba.prog (w.drewN m) = .ok (.bool false) (w.drewN m) := fun m => run_eql_map_nil _ 28 9 9 (some b) Yba.underlying28
  have h4 : (sz : Int) < 256 := by omega
  have K5 : Hid (∀ m, ∃ w', (Instr.mapUpdate 28 (.map (some b)) (.string s) (.string s)).run Yba.prog (w.drewN m) = .ok () w' ∧ w'.cell? ⟨rb, 9, none⟩ = some (.map (some b)) ∧ MapIs B w' (.map (some b)) (upd f s s) (sz + 1) ∧ Keeps B rb w w') := fun m => by
    obtain ⟨w', hrun, hm2, ht⟩ := MapAt.store (w := w.drewN m) hm hs hs (by unfold maxLen; omega)
    rw [hf] at hm2
    have hk : Keeps B rb w w' := ((Keeps.refl B rb w).drewN m).trans (keeps_turned ht hB hBs)
    refine ⟨w', hrun, ?_, .inr ⟨b, rfl, hB, hm2, by omega⟩, hk⟩
    have hne := hm.ne c9
    obtain ⟨es, clock, es', clock', hb, rfl⟩ := ht
    rw [World.cell?_of_block (w := w.drewN m) (ChangeMaps.heap_setBlock_other hb _ (Ne.symm hne))]
    exact c9
  clear hm hm' hv
  go_enter Yba.func6, Yba.ntmps6
  go_wp2
  go_quiet (fail)
  obtain ⟨w', hrun, hcell, hmap, hkeep⟩ := K5.out nq
  have HK : Hid (Stored B rb w w' f sz s) := ⟨_, hcell, hmap, hkeep⟩
  clear hmap hkeep
  go_wp2
  go_ret
  exact ⟨rfl, HK.out⟩

/-- not there, no map yet. -/
theorem intern_first (B rb : Nat) (v : Value) (s : ByteArray) (f : ByteArray → Option ByteArray) (w : World) (hs : s.size ≤ maxLen) (hv : Spells w v s) (c6 : w.cell? ⟨rb, 6, none⟩ = some v) (c9 : w.cell? ⟨rb, 9, none⟩ = some (.map none))
    (f9 : w.frozen? ⟨rb, 9, none⟩ = false) (hB : B ≤ rb) (hBs : B ≤ w.heap.size) (hf : ∀ t, f t = none) :
    Calls Yba.prog 6 #[.pointer (some ⟨rb, 0, none⟩)] w fun e w' => e = .returned (.string s) ∧ Stored B rb w w' f 0 s := by
  have hm' : MapIs B w (.map none) f 0 := .inl ⟨rfl, hf, rfl⟩
  have k1 : ∀ m, (convert 27 9 v).run Yba.prog (w.drewN m) = .ok (.string s) (w.drewN m) := fun m => Spells.conv (w := w.drewN m) hv
  have k2 : ∀ m, (Instr.lookup 28 (.map none) (.string s) true).run Yba.prog (w.drewN m) = .ok (.tuple #[.string ⟨#[]⟩, .bool false]) (w.drewN m) := fun m => by
    have := MapIs.look (w := w.drewN m) hm' hs
    rw [hf] at this; exact this
  have k3 : ∀ ty m, (Builtin.len_ #[28] ty #[.map none]).run Yba.prog (w.drewN m) = .ok (.int .i64 0) (w.drewN m) := fun ty m => MapIs.len (w := w.drewN m) hm' ty
  have k4 : ∀ m, (binOp .eql 28 (.map none) (.map none)).run Yba.prog (w.drewN m) = .ok (.bool true) (w.drewN m) := fun m => run_eql_map_nil _ 28 9 9 none Yba.underlying28
  have K5 : Hid (∀ m, ∃ w', (Instr.mapUpdate 28 (.map (some w.heap.size)) (.string s) (.string s)).run Yba.prog (((w.drewN m).alloc (.map #[] 0)).setCell ⟨rb, 9, none⟩ (.map (some w.heap.size))) = .ok () w' ∧ Stored B rb w w' f 0 s) := fun m => by
    have hlt : rb < w.heap.size := by
      rcases Nat.lt_or_ge rb w.heap.size with h | h
      · exact h
      · simp [World.cell?, Array.getElem?_eq_none h] at c9
    have hmade : MapAt ((w.drewN m).alloc (.map #[] 0)) w.heap.size (fun _ => none) 0 := MapAt.made (w.drewN m)
    have hset : MapAt (((w.drewN m).alloc (.map #[] 0)).setCell ⟨rb, 9, none⟩ (.map (some w.heap.size))) w.heap.size (fun _ => none) 0 :=
      hmade.kept (Below.heap_setCell _ _ _ _ (show w.heap.size ≠ rb by omega))
    obtain ⟨w', hrun, hm2, ht⟩ := hset.store (s := s) (v := s) hs hs (by unfold maxLen; omega)
    have hfe : f = fun _ => none := funext hf
    have hsz3 : B ≤ (((w.drewN m).alloc (.map #[] 0)).setCell ⟨rb, 9, none⟩ (.map (some w.heap.size))).heap.size := by
      have := ((below_drewN (Below.refl B w) m).alloc hBs (.map #[] 0)).setCell (p := ⟨rb, 9, none⟩) hB (.map (some w.heap.size))
      exact Nat.le_trans hBs this.size
    have hk : Keeps B rb w w' := (((Keeps.refl B rb w).drewN m).trans (keeps_made _ hBs)).trans ((keeps_field _ hB _).trans (keeps_turned ht hBs hsz3))
    refine ⟨w', hrun, _, ?_, .inr ⟨_, rfl, hBs, by rw [hfe]; exact hm2, by simp⟩, hk⟩
    have hc : (((w.drewN m).alloc (.map #[] 0)).setCell ⟨rb, 9, none⟩ (.map (some w.heap.size))).cell? ⟨rb, 9, none⟩ = some (.map (some w.heap.size)) :=
      World.cell?_setCell_same _ _ (v := _) (u := .map none) (Lib.cell?_alloc_some _ c9)
    have hne := hset.ne hc
    obtain ⟨es, clock, es', clock', hb, rfl⟩ := ht
    rw [World.cell?_of_block (ChangeMaps.heap_setBlock_other hb _ (Ne.symm hne))]
    exact hc
  clear hm' hv
  go_enter Yba.func6, Yba.ntmps6
  go_wp2
  go_quiet (fail)
  obtain ⟨w', hrun, hst⟩ := K5.out nq
  have HK : Hid (Stored B rb w w' f 0 s) := hst
  have hm1 := run_makeMap (P := Yba.prog) 28 (w.drewN nq)
  have f10 : ((w.drewN nq).alloc (.map #[] 0)).frozen? ⟨rb, 9, none⟩ = false := (frozen?_alloc_map _ _ _ _).trans f9
  have c10 : ((w.drewN nq).alloc (.map #[] 0)).cell? ⟨rb, 9, none⟩ = some (.map none) := Lib.cell?_alloc_some _ c9
  have c11 : (((w.drewN nq).alloc (.map #[] 0)).setCell ⟨rb, 9, none⟩ (.map (some w.heap.size))).cell? ⟨rb, 9, none⟩ = some (.map (some w.heap.size)) := World.cell?_setCell_same _ _ (v := _) (u := .map none) c10
  clear hst
  go_wp2
  go_ret
  exact ⟨rfl, HK.out⟩

end Go.Proofs.Ybulkchsq
