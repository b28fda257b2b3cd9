import Derived.Test.Qxb6615539aFmtBytes
import Derived.Deep.OwnRows
namespace Go.Proofs.Qxb6615539aFmt
open Go.RowKit
open Extern.Stop (cell)

/-! ### make, elements of many cells -/
/-- What make lays: n times m cells, whatever they hold. -/
def Made (w : World) (e : TypeId) (n : Nat) (w' : World) : Prop := ∃ c : Array Value, w' = w.alloc (.cells c e) ∧ c.size = n

theorem make_wide (t e : TypeId) (size bytes : Nat) (ht : Tryf.prog.underlying t = some (.slice e)) (hinfo : (Tryf.prog.info? e).map (fun i => (i.zero.isSome, i.size, i.bytes)) = some (true, size, bytes))
    (n : Nat) (hbytes : bytes * n ≤ 281474976710656) (h63 : n ≤ 9223372036854775807) :
    ∃ z : Array Value, ∀ w, (Instr.makeSlice t (.int .i64 (n : Int)) (.int .i64 (n : Int))).run Tryf.prog w = .ok (.slice (some ⟨w.heap.size, 0, none⟩) n n) (w.alloc (.cells (madeCells z (n * size)) e)) := by
  obtain ⟨i, hi, hzz⟩ := Option.map_eq_some_iff.1 hinfo
  simp only [Prod.mk.injEq] at hzz
  obtain ⟨hz, rfl, rfl⟩ := hzz
  obtain ⟨z, hz⟩ := Option.isSome_iff_exists.1 hz
  refine ⟨z.cells, fun w => ?_⟩
  have hb' : (i.bytes : Int) * (n : Int) ≤ 281474976710656 := by
    have h : ((i.bytes * n : Nat) : Int) ≤ 281474976710656 := by omega
    rwa [Int.natCast_mul] at h
  have hr := run_make (P := Tryf.prog) w t e i z ht hi hz .i64 .i64 n n (by omega) (Int.le_refl _) hb' (by omega)
  simpa using hr

/-! ### Stores of many cells -/
theorem setCells_size (b : Nat) : ∀ (vs : List Value) (o : Nat) (w : World), (w.setCells b o vs).heap.size = w.heap.size
  | [], _, _ => rfl
  | v :: r, o, w => by rw [World.setCells, setCells_size b r]; simp [World.setCell]

theorem Below.setCells {B : Nat} {a : World} {b : Nat} (hb : B ≤ b) : ∀ (vs : List Value) (o : Nat) (w : World), Below B a w → Below B a (w.setCells b o vs)
  | [], _, _, h => h
  | v :: r, o, w, h => by
    rw [World.setCells]
    exact Below.setCells hb r (o + 1) _ (Below.setCell h (p := ⟨b, o, none⟩) hb v)

theorem there_new (w : World) (c : Array Value) (t : TypeId) (o n : Nat) (h : o + n ≤ c.size) : (w.alloc (.cells c t)).there w.heap.size o n := fun j hj => by
  refine ⟨?_, ?_⟩
  · rw [cell_of_row _ _ (o + j) _ t (0, 0) (heap_alloc_last w _)]
    simp; omega
  · exact (World.rowIs_alloc w c t (fun i => c[i]!) (fun i hi => by simp [hi])).frozen (o + j)

theorem there_part {w : World} {b o n o' n' : Nat} (h : w.there b o n) (h1 : o ≤ o') (h2 : o' + n' ≤ o + n) : w.there b o' n' := fun j hj => by
  have := h (o' - o + j) (by omega)
  rwa [show o + (o' - o + j) = o' + j by omega] at this

theorem there_below {w w' : World} {b o n : Nat} (h : w.there b o n) (hb : Below w.heap.size w w') : w'.there b o n := fun j hj => by
  obtain ⟨h1, h2⟩ := h j hj
  obtain ⟨u, hu⟩ := Option.isSome_iff_exists.1 h1
  have hlt := World.block_lt_of_cell? w _ hu
  exact ⟨by rw [hb.cell hlt]; exact h1, by rw [hb.frozen hlt]; exact h2⟩

theorem there_setCell {w : World} {b o n : Nat} (h : w.there b o n) (a : Addr) (v : Value) : (w.setCell a v).there b o n := fun j hj => by
  obtain ⟨h1, h2⟩ := h j hj
  obtain ⟨u, hu⟩ := Option.isSome_iff_exists.1 h1
  refine ⟨?_, by rw [World.frozen?_setCell]; exact h2⟩
  by_cases e : a = ⟨b, o + j, none⟩
  · subst e; rw [World.cell?_setCell_same _ _ _ hu]; rfl
  · rw [World.cell?_setCell_other _ _ _ _ e, hu]; rfl

theorem range_setCell_apart {w : World} {b o : Nat} {cs : List Value} (h : w.rangeAt b o cs) (a : Addr) (v : Value) (hap : b ≠ a.block ∨ o + cs.length ≤ a.off ∨ a.off < o) : (w.setCell a v).rangeAt b o cs := fun j x hj => by
  have hlt : j < cs.length := (List.getElem?_eq_some_iff.1 hj).1
  rw [World.cell?_setCell_other _ _ _ _ (fun e => by
    rcases hap with hap | hap | hap
    · exact hap (by rw [e])
    · rw [e] at hap; simp at hap; omega
    · rw [e] at hap; simp at hap; omega)]
  exact h j x hj

theorem range_join {w : World} {b o : Nat} {xs ys : List Value} (h1 : w.rangeAt b o xs) (h2 : w.rangeAt b (o + xs.length) ys) : w.rangeAt b o (xs ++ ys) := fun j x hj => by
  by_cases hl : j < xs.length
  · rw [List.getElem?_append_left hl] at hj; exact h1 j x hj
  · rw [List.getElem?_append_right (by omega)] at hj
    have := h2 _ x hj
    rwa [show o + xs.length + (j - xs.length) = o + j by omega] at this

/-- The value of a reply that lies in memory is set. -/
theorem rep_setval {w : World} {b o : Nat} {r : Rep} {v v' : Value} (h : w.rangeAt b o (repCells r v)) : (w.setCell ⟨b, o + 20, none⟩ v').rangeAt b o (repCells r v') := by
  obtain ⟨h1, h2⟩ := range_app h
  have hl : (Value.int IntKind.u64 r.id :: Value.int IntKind.u8 r.op :: Value.string r.key :: Value.int IntKind.u64 r.tn :: r.tw.cells).length = 20 := by simp [Id16.cells_len]
  refine range_join (range_setCell_apart h1 _ _ (Or.inr (Or.inl (by rw [hl]; exact Nat.le_refl _)))) ?_
  rw [hl] at h2 ⊢
  intro j x hj
  cases j with
  | zero =>
    have h20 := h2 0 v rfl
    simp at hj
    subst hj
    exact World.cell?_setCell_same _ _ _ h20
  | succ j =>
    rw [World.cell?_setCell_other _ _ _ _ (fun e => by simp at e)]
    exact h2 (j + 1) x (by simpa using hj)

theorem val_setCell {w : World} {v : Value} {x : Option (List UInt8)} (h : ValIn w v x) (a : Addr) (u : Value) (hne : ∀ q c n, v = .slice (some q) n c → 0 < n → q.block ≠ a.block) : ValIn (w.setCell a u) v x := by
  cases x with
  | none => exact h
  | some bs =>
    obtain ⟨q, c, b, o, h1, h2, h3⟩ := h
    refine ⟨q, c, b, o, h1, h2, ?_⟩
    by_cases h0 : 0 < bs.length
    · exact range_setCell_apart h3 a u (Or.inl (by have := hne q c _ h1 h0; rw [h2 h0] at this; exact this))
    · have : bs = [] := by cases bs with | nil => rfl | cons _ _ => simp at h0
      subst this
      intro j y hj; simp at hj

theorem Tryf.info5 : (Tryf.prog.info? 5).map (fun i => (i.zero, i.size, i.bytes)) = some (some (.int .u8 0), 1, 1) := by kernel_rfl

/-! ### 21: zzCopyBytes -/
def CopyPost (x : Option (List UInt8)) (w : World) (e : Ending) (w' : World) : Prop :=
  ∃ v, e = .returned v ∧ ValIn w' v x ∧ Below w.heap.size w w' ∧ (∀ q n c, v = .slice (some q) n c → q.block = w.heap.size)

theorem copy_nil (w : World) : Calls Tryf.prog 21 #[.slice none 0 0] w (CopyPost none w) := by
  have hq := fun w => Lib.run_eql_slice_nil (P := Tryf.prog) w 40 5 none 0 0 0 0 Tryf.underlying40
  go_enter Tryf.func21, Tryf.ntmps21
  go_wp2
  go_ret
  exact ⟨_, rfl, rfl, Below.refl _ _, fun q n c h => by simp at h⟩

theorem copy_step {w wr : World} {bs : List UInt8} {k : Nat} (hk : k < bs.length)
    (hrow : wr.rowIs w.heap.size 5 bs.length (fun j => if j < k then cell (bs.getD j 0) else .int .u8 0)) :
    (wr.setCell ⟨w.heap.size, k, none⟩ (cell (bs.getD k 0))).rowIs w.heap.size 5 bs.length (fun j => if j < k + 1 then cell (bs.getD j 0) else .int .u8 0) := by
  refine (hrow.set k (cell (bs.getD k 0))).congr fun j hj => ?_
  by_cases e : j = k
  · subst e; simp
  · rw [if_neg e]
    by_cases h : j < k
    · rw [if_pos h, if_pos (by omega)]
    · rw [if_neg h, if_neg (by omega)]

theorem rowIs_val {w wr : World} {bs : List UInt8} (h : wr.rowIs w.heap.size 5 bs.length (fun j => cell (bs.getD j 0))) (c : Nat) : ValIn wr (.slice (some ⟨w.heap.size, 0, none⟩) bs.length c) (some bs) :=
  ⟨_, c, w.heap.size, 0, rfl, fun _ => rfl, fun j x hj => by
    obtain ⟨hl, he⟩ := List.getElem?_eq_some_iff.1 hj
    have hl' : j < bs.length := by simpa using hl
    rw [Nat.zero_add, h.cell hl']
    simp at he
    simp [List.getD, hl', he]⟩

set_option maxHeartbeats 400000 in
theorem copy_some (a : Addr) (b o c : Nat) (bs : List UInt8) (w : World) (hn : bs.length ≤ 1048576) (ha : 0 < bs.length → a = ⟨b, o, none⟩) (hr : w.rangeAt b o (bs.map cell)) :
    Calls Tryf.prog 21 #[.slice (some a) bs.length c] w (CopyPost (some bs) w) := by
  have hq := fun w => Lib.run_eql_slice_nil (P := Tryf.prog) w 40 5 (some a) bs.length c 0 0 Tryf.underlying40
  have hmk := run_make_row' (P := Tryf.prog) 40 5 (.int .u8 0) 1 Tryf.underlying40 Tryf.info5 rfl .i64 .i64 bs.length (by omega) (by omega)
  have HR : Hid (w.rangeAt b o (bs.map cell)) := hr
  have HA : Hid (0 < bs.length → a = ⟨b, o, none⟩) := ha
  clear hr ha
  generalize hN : bs.length = n at *
  go_enter Tryf.func21, Tryf.ntmps21
  go_wp2
  go_loopw [4] (fun i wr => ∃ k : Nat, k ≤ n ∧ i = .int .i64 k ∧ wr.rowIs w.heap.size 5 bs.length (fun j => if j < k then cell (bs.getD j 0) else .int .u8 0) ∧ Below w.heap.size w wr) (fun i _ => n - (intOf i).toNat)
  case atStart =>
    refine ⟨0, Nat.zero_le _, rfl, ?_, (Below.refl _ _).alloc (Nat.le_refl _) _⟩
    rw [hN]
    exact (World.rowIs_made w _ n 5).congr (fun j hj => by simp)
  case round =>
    obtain ⟨k, hk, rfl, hrow, hbel⟩ := hrel
    by_cases hlt : k < n
    · obtain rfl := HA.out (by omega)
      have hkb : k < bs.length := by omega
      have hck : wr.cell? ⟨b, o + k, none⟩ = some (cell (bs.getD k 0)) := cell_later hbel (HR.out k _ (by simp [List.getD, hkb]))
      have hw := hrow.cell hkb
      have hf := hrow.frozen k
      have R := copy_step hkb hrow
      have hbel' := hbel.setCell (p := ⟨w.heap.size, k, none⟩) (Nat.le_refl _) (cell (bs.getD k 0))
      obtain ⟨z, hz⟩ : ∃ z, cell (bs.getD k 0) = .int .u8 z := ⟨_, rfl⟩
      rw [hz] at hck R hbel'
      clear hrow hN hz
      go_wp2
      go_roundw
      case rel => exact ⟨k + 1, by omega, by go_num, R, hbel'⟩
      case measure => simp [intOf]; omega
    · go_wp2
      go_ret
      refine ⟨_, rfl, ?_, hbel, fun q m c h => by simp at h; rw [← h.1]⟩
      have hz := rowIs_val (hrow.congr (fun j hj => by rw [if_pos (by omega)])) n
      rw [hN] at hz
      exact hz

theorem copy_any (v : Value) (x : Option (List UInt8)) (w : World) (h : ValIn w v x) (hn : (x.getD []).length ≤ 1048576) : Calls Tryf.prog 21 #[v] w (CopyPost x w) := by
  cases x with
  | none => cases h; exact copy_nil w
  | some bs => obtain ⟨a, c, b, o, rfl, ha, hr⟩ := h; exact copy_some a b o c bs w hn ha hr

/-! ### A row that a function is filling -/
/-- L cells at offset o of block g: the cells C v, where v is a slice over bytes that lie in another block. -/
def OwnAt (w : World) (g o L : Nat) (C : Value → List Value) (x : Option (List UInt8)) : Prop :=
  ∃ v, w.rangeAt g o (C v) ∧ (C v).length = L ∧ ValIn w v x ∧ LoV (g + 1) v

theorem val_setCells {w : World} {v : Value} {x : Option (List UInt8)} {g : Nat} (h : ValIn w v x) (o : Nat) (vs : List Value) (hne : ∀ q n c, v = .slice (some q) n c → q.block ≠ g) : ValIn (w.setCells g o vs) v x := by
  cases x with
  | none => exact h
  | some bs =>
    obtain ⟨q, c, b, o', h1, h2, h3⟩ := h
    refine ⟨q, c, b, o', h1, h2, ?_⟩
    by_cases h0 : 0 < bs.length
    · refine World.rangeAt_setCells_apart h3 _ _ _ (Or.inl ?_)
      have := hne q _ c h1; rw [h2 h0] at this; exact this
    · have : bs = [] := by cases bs with | nil => rfl | cons _ _ => simp at h0
      subst this
      intro j y hj; simp at hj

section
variable {w w' : World} {g o L : Nat} {C : Value → List Value} {x : Option (List UInt8)}
theorem OwnAt.setCells (h : OwnAt w g o L C x) (o' : Nat) (vs : List Value) (hap : o + L ≤ o' ∨ o' + vs.length ≤ o) : OwnAt (w.setCells g o' vs) g o L C x := by
  obtain ⟨v, h1, h2, h3, h4⟩ := h
  exact ⟨v, World.rangeAt_setCells_apart h1 _ _ _ (Or.inr (by rw [h2]; exact hap)), h2, val_setCells h3 _ _ (fun q n c e => Nat.ne_of_gt (h4 q n c e)), h4⟩
theorem OwnAt.setCell (h : OwnAt w g o L C x) (o' : Nat) (u : Value) (hap : o + L ≤ o' ∨ o' < o) : OwnAt (w.setCell ⟨g, o', none⟩ u) g o L C x := by
  obtain ⟨v, h1, h2, h3, h4⟩ := h
  exact ⟨v, range_setCell_apart h1 _ _ (Or.inr (by rw [h2]; exact hap)), h2, val_setCell h3 _ _ (fun q c n e _ => Nat.ne_of_gt (h4 q n c e)), h4⟩
theorem OwnAt.below (h : OwnAt w g o L C x) (hb : Below w.heap.size w w') : OwnAt w' g o L C x := by
  obtain ⟨v, h1, h2, h3, h4⟩ := h
  exact ⟨v, Below.range h1 hb, h2, Below.val h3 hb, h4⟩
end

theorem Tryf.infoz49 : (Tryf.prog.info? 49).map (fun i => (i.zero.isSome, i.size, i.bytes)) = some (true, 59, 152) := by kernel_rfl
theorem Tryf.infoz43 : (Tryf.prog.info? 43).map (fun i => (i.zero.isSome, i.size, i.bytes)) = some (true, 60, 176) := by kernel_rfl
end Go.Proofs.Qxb6615539aFmt
