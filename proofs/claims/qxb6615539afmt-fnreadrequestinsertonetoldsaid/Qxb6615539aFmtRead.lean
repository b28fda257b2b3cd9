import Derived.Test.Qxb6615539aFmtComp
namespace Go.Proofs.Qxb6615539aFmt
open Go.RowKit
open Extern.Stop (cell)
set_option linter.unusedSimpArgs false

/-! ### 32: ContainsFunc -/
def HasPost (R : Nat → Rep) (n : Nat) (r : Rep) (w : World) (e : Ending) (w' : World) : Prop := ∃ z : Bool, e = .returned (.bool z) ∧ (z = true ↔ ¬ AllEq R n r) ∧ Below w.heap.size w w'

theorem contains_any (lo b off n c : Nat) (R : Nat → Rep) (q p : Nat) (key : ByteArray) (mode : Int) (r : Rep) (f : Bool) (w : World) (h : MsgIn w lo (some ⟨b, off, none⟩) b off n R) (hn2 : n ≤ 1048576)
    (hq : w.cell? ⟨q, 0, none⟩ = some (.pointer (some ⟨p, 0, none⟩))) (hr : ReadAt w p key mode r f) :
    Calls Tryf.prog 32 #[.slice (some ⟨b, off, none⟩) n c, .func (.func 33) #[] #[.pointer (some ⟨q, 0, none⟩)]] w (HasPost R n r w) := by
  have H : Hid _ := h
  have HQ : Hid _ := hq
  have HR : Hid (ReadAt w p key mode r f) := hr
  clear h hq hr
  go_enter Tryf.func32, Tryf.ntmps32
  go_wp2_with fail
  go_at_call 41
  refine (index_any lo b off n c R q p key mode r f w H.out hn2 HQ.out HR.out).mono ?_
  rintro e w1 ⟨z, rfl, hz, hb⟩
  have HZ : Hid _ := hz
  clear hz
  go_wp2_with fail
  go_ret
  exact ⟨decide (0 ≤ z), rfl, by rw [decide_eq_true_iff]; exact HZ.out, hb⟩

/-- All that was there but block p is as it was. -/
structure ButAt (p : Nat) (w w' : World) : Prop where
  os : w'.os = w.os
  tape : w'.tape = w.tape
  output : w'.output = w.output
  size : w.heap.size ≤ w'.heap.size
  block : ∀ b, b < w.heap.size → b ≠ p → w'.heap[b]? = w.heap[b]?

theorem ButAt.below {p : Nat} {w w' : World} (h : ButAt p w w') (B : Nat) (hB : B ≤ p) (hw : p < w.heap.size) : Below B w w' :=
  ⟨h.os, h.tape, h.output, h.size, fun k hk => h.block k (by omega) (by omega)⟩
theorem ButAt.cell {p : Nat} {w w' : World} (h : ButAt p w w') {a : Addr} {v : Value} (hc : w.cell? a = some v) (hp : a.block ≠ p) : w'.cell? a = some v :=
  (World.cell?_of_block (h.block a.block (World.block_lt_of_cell? w _ hc) hp)).trans hc
theorem ButAt.range {p : Nat} {w w' : World} (h : ButAt p w w') {b o : Nat} {cs : List Value} (hc : w.rangeAt b o cs) (hp : b ≠ p) : w'.rangeAt b o cs := fun j v hj => h.cell (hc j v hj) hp
theorem butAt_of_below {p : Nat} {w w' : World} (h : Below w.heap.size w w') : ButAt p w w' := ⟨h.os, h.tape, h.output, h.size, fun b hb _ => h.block b hb⟩
theorem ButAt.trans {p : Nat} {a b c : World} (h : ButAt p a b) (k : ButAt p b c) : ButAt p a c :=
  ⟨k.os.trans h.os, k.tape.trans h.tape, k.output.trans h.output, Nat.le_trans h.size k.size, fun x hx hp => (k.block x (Nat.lt_of_lt_of_le hx h.size) hp).trans (h.block x hx hp)⟩
theorem butAt_setCell (w : World) (p o : Nat) (v : Value) : ButAt p w (w.setCell ⟨p, o, none⟩ v) :=
  ⟨rfl, rfl, rfl, by simp [World.setCell], fun b _ hp => Below.heap_setCell w ⟨p, o, none⟩ v b hp⟩
theorem butAt_setCells (p : Nat) : ∀ (vs : List Value) (o : Nat) (w : World), ButAt p w (w.setCells p o vs)
  | [], _, w => ⟨rfl, rfl, rfl, Nat.le_refl _, fun _ _ _ => rfl⟩
  | v :: r, o, w => by
    rw [World.setCells]
    exact (butAt_setCell w p o v).trans (butAt_setCells p r (o + 1) _)

/-! ### 14: Complete -/
theorem comp_again (p : Nat) (key : ByteArray) (mode : Int) (r : Rep) (s : Value) (w : World) (h : ReadAt w p key mode r true) :
    Calls Tryf.prog 14 #[.pointer (some ⟨p, 0, none⟩), s] w fun e w' => e = .returned (.tuple #[.bool true, .nilIface]) ∧ Below w.heap.size w w' := by
  obtain ⟨v, h1, _, _, _⟩ := h
  have c62 := (readIs h1).c62
  have hp : p < w.heap.size := World.block_lt_of_cell? w _ c62
  have hp1 : p ≠ w.heap.size := by omega
  have hp2 : p < w.heap.size + 1 := by omega
  clear h1
  go_enter Tryf.func14, Tryf.ntmps14
  go_wp2_with fail
  go_ret2
  exact ⟨rfl, (Below.refl _ _).alloc (Nat.le_refl _) _⟩

/-- The read behind its first round: r0 is what it found. -/
structure CompPost (p : Nat) (key : ByteArray) (mode : Int) (R : Nat → Rep) (n : Nat) (w : World) (e : Ending) (w' : World) : Prop where
  ans : ∃ z : Bool, e = .returned (.tuple #[.bool z, .nilIface]) ∧ (z = true ↔ mode = 0 ∧ AllEq R n (R (hi R (n - 1))))
  read : ReadAt w' p key mode (R (hi R (n - 1))) true
  but : ButAt p w w'

/-- The store of what was found. -/
theorem read_found {w : World} {p : Nat} {key : ByteArray} {mode : Int} {r r' : Rep} {v : Value} {f : Bool} (h : ReadAt w p key mode r f) (hv : ValIn w v r'.val) (hl : LoV (p + 1) v) :
    ReadAt (w.setCells p 2 (msgCells r' v)) p key mode r' f := by
  obtain ⟨v0, h1, h2, h3, h4⟩ := h
  have I := readIs h1
  have hne : ∀ q n c, v = .slice (some q) n c → q.block ≠ p := fun q n c e => Nat.ne_of_gt (hl q n c e)
  refine ⟨v, ?_, val_setCells hv _ _ hne, World.there_setCells h3 _ _ _, hne⟩
  have hth : w.there p 2 (msgCells r' v).length := by rw [msgCells_len]; exact there_part h3 (by omega) (by omega)
  have m1 := World.rangeAt_setCells_same w p 2 (msgCells r' v) hth
  intro j x hj
  have out : ∀ j x, w.cell? ⟨p, j, none⟩ = some x → (j < 2 ∨ 62 ≤ j) → (w.setCells p 2 (msgCells r' v)).cell? ⟨p, j, none⟩ = some x := fun j x hc hj => by
    rw [World.cell?_setCells_out p _ 2 w ⟨p, j, none⟩ (fun _ _ => by rw [msgCells_len]; show j < 2 ∨ 2 + 60 ≤ j; omega)]; exact hc
  rw [Nat.zero_add]
  match j, hj with
  | 0, hj => simp [readCells] at hj; subst hj; exact out 0 _ I.c0 (by omega)
  | 1, hj => simp [readCells] at hj; subst hj; exact out 1 _ I.c1 (by omega)
  | j + 2, hj =>
    simp only [readCells, List.getElem?_cons_succ] at hj
    by_cases hlt : j < (msgCells r' v).length
    · rw [List.getElem?_append_left hlt] at hj
      have := m1 j x hj
      rwa [Nat.add_comm 2 j] at this
    · rw [List.getElem?_append_right (by omega), msgCells_len] at hj
      rw [msgCells_len] at hlt
      have : j = 60 := by
        have := (List.getElem?_eq_some_iff.1 hj).1
        simp at this; omega
      subst this
      simp at hj
      subst hj
      exact out 62 _ I.c62 (by omega)

theorem read_done {w : World} {p : Nat} {key : ByteArray} {mode : Int} {r : Rep} {f : Bool} (h : ReadAt w p key mode r f) : ReadAt (w.setCell ⟨p, 62, none⟩ (.bool true)) p key mode r true := by
  obtain ⟨v, h1, h2, h3, h4⟩ := h
  have I := readIs h1
  refine ⟨v, ?_, val_setCell h2 _ _ (fun q c n e _ => h4 q n c e), there_setCell h3 _ _, h4⟩
  intro j x hj
  rw [Nat.zero_add]
  by_cases e : j = 62
  · subst e
    have : x = .bool true := by
      simp only [readCells, List.getElem?_cons_succ] at hj
      rw [List.getElem?_append_right (by rw [msgCells_len]; omega), msgCells_len] at hj
      simpa using hj.symm
    subst this
    exact World.cell?_setCell_same _ _ _ I.c62
  · have hlen : j < 63 := by
      have := (List.getElem?_eq_some_iff.1 hj).1
      rw [readCells_len] at this; exact this
    rw [World.cell?_setCell_other _ _ _ _ (fun h => e (congrArg Addr.off h).symm)]
    have := h1 j x (by
      rw [← hj]
      simp only [readCells]
      match j, e, hlen with
      | 0, _, _ => rfl
      | 1, _, _ => rfl
      | j + 2, e, hlen =>
        simp only [List.getElem?_cons_succ]
        rw [List.getElem?_append_left (by rw [msgCells_len]; omega), List.getElem?_append_left (by rw [msgCells_len]; omega)])
    rwa [Nat.zero_add] at this
end Go.Proofs.Qxb6615539aFmt
