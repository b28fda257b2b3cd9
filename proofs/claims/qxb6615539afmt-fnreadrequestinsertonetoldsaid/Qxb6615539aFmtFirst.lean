import Derived.Test.Qxb6615539aFmtRead
namespace Go.Proofs.Qxb6615539aFmt
open Go.RowKit
open Extern.Stop (cell)
set_option linter.unusedSimpArgs false

theorem butAt_msgs {p lo : Nat} {w w' : World} {a : Option Addr} {b off n : Nat} {R : Nat → Rep} (h : MsgIn w lo a b off n R) (k : ButAt p w w') (hlo : p < lo) (hb : b ≠ p) : MsgIn w' lo a b off n R := by
  refine ⟨h.at_, fun j hj => ?_⟩
  obtain ⟨v, h1, h2, h3⟩ := h.rep j hj
  refine ⟨v, k.range h1 hb, ?_, h3⟩
  cases hx : (R j).val with
  | none => rw [hx] at h2; exact h2
  | some bs =>
    rw [hx] at h2
    obtain ⟨q, c, b', o', e1, e2, e3⟩ := h2
    refine ⟨q, c, b', o', e1, e2, ?_⟩
    by_cases h0 : 0 < bs.length
    · have := h3 q _ c e1
      rw [e2 h0] at this
      exact k.range e3 (by have : lo ≤ b' := this; omega)
    · have : bs = [] := by cases bs with | nil => rfl | cons _ _ => simp at h0
      subst this
      intro j y hj; simp at hj

/-- .. and where the value lies that the read holds. -/
structure CompLo (lo : Nat) (p : Nat) (key : ByteArray) (mode : Int) (R : Nat → Rep) (n : Nat) (w : World) (e : Ending) (w' : World) : Prop where
  post : CompPost p key mode R n w e w'
  low : ∀ v, w'.cell? ⟨p, 22, none⟩ = some v → LoV lo v

set_option maxHeartbeats 2000000 in
theorem comp_firstLo (p : Nat) (key : ByteArray) (mode : Int) (r : Rep) (lo : Nat) (a : Option Addr) (b off n c : Nat) (R : Nat → Rep) (w : World) (h : ReadAt w p key mode r false) (hm : MsgIn w lo a b off n R) (hlo : p < lo) (hb : b ≠ p) (hn : 0 < n) (hn2 : n ≤ 1048576) :
    Calls Tryf.prog 14 #[.pointer (some ⟨p, 0, none⟩), .slice a n c] w (CompLo lo p key mode R n w) := by
  obtain rfl := hm.at_ hn
  have HR : Hid (ReadAt w p key mode r false) := h
  have HM : Hid (MsgIn w lo (some ⟨b, off, none⟩) b off n R) := hm
  obtain ⟨v, h1, _, _, _⟩ := h
  have c62 := (readIs h1).c62
  have hp : p < w.heap.size := World.block_lt_of_cell? w _ c62
  obtain ⟨W, hW⟩ : ∃ W, W = w.alloc (.cells #[.pointer (some ⟨p, 0, none⟩)] 27) := ⟨_, rfl⟩
  have hbW : Below w.heap.size w W := by rw [hW]; exact (Below.refl _ _).alloc (Nat.le_refl _) _
  have hWs : W.heap.size = w.heap.size + 1 := by rw [hW]; simp
  have q0 : W.cell? ⟨w.heap.size, 0, none⟩ = some (.pointer (some ⟨p, 0, none⟩)) := by rw [hW, cell_of_row _ _ 0 _ 27 (0, 0) (heap_alloc_last w _)]; rfl
  have c62' : W.cell? ⟨p, 62, none⟩ = some (.bool false) := cell_later hbW c62
  have HW : Hid (W = w.alloc (.cells #[.pointer (some ⟨p, 0, none⟩)] 27)) := hW
  clear hW h1 hm c62
  go_enter Tryf.func14, Tryf.ntmps14
  go_upto_region 1 with fail
  rw [← HW.out]
  go_wp2_with fail
  refine wp_region_floatl (fun w' => w'.cell? ⟨w.heap.size, 0, none⟩ = some (.pointer (some ⟨p, 0, none⟩))) [(0, 2)] [2, 3, 4, 5] (by kernel_rfl) (by kernel_rfl) (by simpa using q0) ?_
  intro OPS hO
  simp only [List.map_cons, List.map_nil, List.getElem?_cons_succ, List.getElem?_cons_zero, List.cons.injEq, and_true] at hO
  obtain ⟨h2, h3, h4, h5⟩ := hO
  simp only [segs, List.drop_succ_cons, List.drop_zero, List.take_succ_cons, List.take_zero, List.cons_append, List.nil_append, List.append_nil]
  have H2 : Hid _ := h2
  have H3 : Hid _ := h3
  have H4 : Hid _ := h4
  have H5 : Hid _ := h5
  clear h2 h3 h4 h5
  repeat (apply take_step rfl; (case h => (intro wx hx; go_simp; try with_reducible rfl)); try simp only [Act.put, List.setIfInBounds_toArray, List.set_cons_zero, List.set_cons_succ])
  refine take_nil ?_
  refine rest_step H2.out ?_
  have hbWd : Below w.heap.size w W.drew := hbW.drew
  go_wp2_with (go_at_call 31; refine (highest_any lo (some ⟨b, off, none⟩) b off n c R W.drew (Below.msgs HM.out hbWd) hn hn2).mono ?_)
  rintro e w1 ⟨vh, rfl, ⟨hv, hl⟩, hb1⟩
  have HV : Hid _ := hv
  have HL : Hid _ := hl
  clear hv hl
  have q1 : w1.cell? ⟨w.heap.size, 0, none⟩ = some (.pointer (some ⟨p, 0, none⟩)) := cell_later hb1 (by simpa using q0)
  have HR1 : Hid (ReadAt w1 p key mode r false) := Below.read (Below.read HR.out hbWd) hb1
  go_wp2_with fail
  refine onlyN_mk ⟨q1, ?_⟩
  refine rest_step H3.out ?_
  go_wp2_with fail
  refine onlyN_mk ⟨q1, ?_⟩
  refine rest_step H4.out ?_
  go_wp2_with fail
  refine onlyN_mk ⟨q1, ?_⟩
  refine rest_step H5.out ?_
  obtain ⟨w2, hw2⟩ : ∃ w2, w2 = w1.setCells p 2 (msgCells (R (hi R (n - 1))) vh) := ⟨_, rfl⟩
  have hth2 : w1.there p 2 60 := by
    obtain ⟨_, _, _, h3, _⟩ := HR1.out
    exact there_part h3 (by omega) (by omega)
  have HR2 : Hid (ReadAt w2 p key mode (R (hi R (n - 1))) false) := by
    rw [hw2]; exact read_found HR1.out (Below.val HV.out hb1) (fun q n c e => Nat.le_trans hlo (HL.out q n c e))
  have hB2 : ButAt p w w2 := by
    rw [hw2]
    exact ((butAt_of_below hbWd).trans (butAt_of_below hb1)).trans (butAt_setCells p _ _ _)
  have q2 : w2.cell? ⟨w.heap.size, 0, none⟩ = some (.pointer (some ⟨p, 0, none⟩)) := by
    rw [hw2]; exact (butAt_setCells p _ _ _).cell q1 (by show w.heap.size ≠ p; omega)
  have l2 : w2.cell? ⟨p, 22, none⟩ = some vh := by
    rw [hw2]
    have := World.rangeAt_setCells_same w1 p 2 (msgCells (R (hi R (n - 1))) vh) (by rw [msgCells_len]; exact hth2)
    exact (msg_fields this).1.f20
  have HW2 : Hid _ := hw2
  clear hw2
  refine wpList_put43 rfl _ _ rfl p 2 _ vh rfl rfl (valIn_one HV.out) hth2 ?_
  rw [← HW2.out]
  go_wp2_with fail
  refine onlyN_mk ⟨q2, rest_nil ?_⟩
  obtain ⟨w3, hw3⟩ : ∃ w3, w3 = w2.setCell ⟨p, 62, none⟩ (.bool true) := ⟨_, rfl⟩
  have c62b : w2.cell? ⟨p, 62, none⟩ = some (.bool false) := by
    obtain ⟨_, g1, _, _, _⟩ := HR2.out
    exact (readIs g1).c62
  have f62 : w2.frozen? ⟨p, 62, none⟩ = false := by
    obtain ⟨_, _, _, g3, _⟩ := HR2.out
    have := (g3 62 (by omega)).2
    rwa [Nat.zero_add] at this
  have HR3 : Hid (ReadAt w3 p key mode (R (hi R (n - 1))) true) := by rw [hw3]; exact read_done HR2.out
  have hB3 : ButAt p w w3 := by rw [hw3]; exact hB2.trans (butAt_setCell w2 p 62 _)
  have q3 : w3.cell? ⟨w.heap.size, 0, none⟩ = some (.pointer (some ⟨p, 0, none⟩)) := by
    rw [hw3]; exact (butAt_setCell w2 p 62 _).cell q2 (by show w.heap.size ≠ p; omega)
  have HM3 : Hid (MsgIn w3 lo (some ⟨b, off, none⟩) b off n R) := butAt_msgs HM.out hB3 hlo hb
  have l3 : w3.cell? ⟨p, 22, none⟩ = some vh := by
    rw [hw3, World.cell?_setCell_other _ _ _ _ (fun h => by simp at h)]; exact l2
  have HL3 : Hid (w3.cell? ⟨p, 22, none⟩ = some vh) := l3
  have HW3 : Hid (w3 = w2.setCell ⟨p, 62, none⟩ (.bool true)) := hw3
  clear hw3 l2 l3
  go_upto_region 5 with fail
  rw [← HW3.out]
  go_wp2_with fail
  go_at_call 32
  refine (contains_any lo b off n c R w.heap.size p key mode (R (hi R (n - 1))) true w3 HM3.out hn2 q3 HR3.out).mono ?_
  rintro e w4 ⟨z, rfl, hz, hb4⟩
  have HZ : Hid _ := hz
  clear hz
  have HR4 : Hid (ReadAt w4 p key mode (R (hi R (n - 1))) true) := Below.read HR3.out hb4
  have c1 : w4.cell? ⟨p, 1, none⟩ = some (.int .u8 mode) := by
    obtain ⟨_, g1, _, _, _⟩ := HR4.out
    exact (readIs g1).c1
  have q4 : w4.cell? ⟨w.heap.size, 0, none⟩ = some (.pointer (some ⟨p, 0, none⟩)) := cell_later hb4 q3
  have hB4 : ButAt p w w4 := hB3.trans (butAt_of_below hb4)
  have HLow : Hid (∀ v, w4.cell? ⟨p, 22, none⟩ = some v → LoV lo v) := fun v hv => by
    have := cell_later hb4 HL3.out
    rw [hv] at this
    cases this
    exact HL.out
  by_cases hm0 : mode = 0
  · subst hm0
    cases z with
    | true =>
      go_wp2_with fail
      go_ret2
      exact ⟨⟨⟨false, rfl, ⟨fun h => (by cases h), fun h => absurd h.2 (HZ.out.1 (by simp))⟩⟩, HR4.out, hB4⟩, HLow.out⟩
    | false =>
      go_wp2_with fail
      go_ret2
      refine ⟨⟨⟨true, rfl, ⟨fun _ => ⟨rfl, Classical.byContradiction fun h => ?_⟩, fun _ => rfl⟩⟩, HR4.out, hB4⟩, HLow.out⟩
      exact absurd (HZ.out.2 h) (by simp)
  · go_wp2_with fail
    go_ret2
    exact ⟨⟨⟨false, rfl, ⟨fun h => (by cases h), fun h => absurd h.1 hm0⟩⟩, HR4.out, hB4⟩, HLow.out⟩

theorem comp_first (p : Nat) (key : ByteArray) (mode : Int) (r : Rep) (lo : Nat) (a : Option Addr) (b off n c : Nat) (R : Nat → Rep) (w : World) (h : ReadAt w p key mode r false) (hm : MsgIn w lo a b off n R) (hlo : p < lo) (hb : b ≠ p) (hn : 0 < n) (hn2 : n ≤ 1048576) :
    Calls Tryf.prog 14 #[.pointer (some ⟨p, 0, none⟩), .slice a n c] w (CompPost p key mode R n w) :=
  (comp_firstLo p key mode r lo a b off n c R w h hm hlo hb hn hn2).mono fun _ _ q => q.post

/-- A read keeps where another one changes. -/
theorem butAt_read {p q : Nat} {w w' : World} {key : ByteArray} {mode : Int} {r : Rep} {f : Bool} {lo : Nat} (h : ReadAt w p key mode r f) (k : ButAt q w w') (hpq : p ≠ q) (hlow : ∀ v, w.cell? ⟨p, 22, none⟩ = some v → LoV lo v) (hq : q < lo) : ReadAt w' p key mode r f := by
  obtain ⟨v, h1, h2, h3, h4⟩ := h
  have hp : p < w.heap.size := World.block_lt_of_cell? w _ (readIs h1).c0
  have hl := hlow v (msg_fields (readIs h1).msg).1.f20
  refine ⟨v, k.range h1 hpq, ?_, fun j hj => ?_, h4⟩
  · cases hx : r.val with
    | none => rw [hx] at h2; exact h2
    | some bs =>
      rw [hx] at h2
      obtain ⟨x, c, b', o', e1, e2, e3⟩ := h2
      refine ⟨x, c, b', o', e1, e2, ?_⟩
      by_cases h0 : 0 < bs.length
      · have := hl x _ c e1
        rw [e2 h0] at this
        exact k.range e3 (by have : lo ≤ b' := this; omega)
      · have : bs = [] := by cases bs with | nil => rfl | cons _ _ => simp at h0
        subst this
        intro j y hj; simp at hj
  · obtain ⟨g1, g2⟩ := h3 j hj
    obtain ⟨u, hu⟩ := Option.isSome_iff_exists.1 g1
    refine ⟨by rw [k.cell hu hpq]; rfl, ?_⟩
    have hb := k.block p hp hpq
    rw [← g2]
    exact World.frozen?_of_block hb
end Go.Proofs.Qxb6615539aFmt
