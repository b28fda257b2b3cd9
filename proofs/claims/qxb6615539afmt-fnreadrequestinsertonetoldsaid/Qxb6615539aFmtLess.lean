import Derived.Test.Qxb6615539aFmtFirst
namespace Go.Proofs.Qxb6615539aFmt
open Go.RowKit
open Extern.Stop (cell)
set_option linter.unusedSimpArgs false

/-- The order of sixteen bytes. -/
def bytesLess : List UInt8 → List UInt8 → Bool
  | a :: xs, b :: ys => if a = b then bytesLess xs ys else decide (a < b)
  | _, _ => false
def tagLess (n1 : Int) (u1 : Id16) (n2 : Int) (u2 : Id16) : Bool := if n1 = n2 then bytesLess u1.l u2.l else decide (n1 < n2)

theorem bytesLess_drop (xs ys : List UInt8) (k : Nat) (hx : k < xs.length) (hy : k < ys.length) :
    bytesLess (xs.drop k) (ys.drop k) = if xs.getD k 0 = ys.getD k 0 then bytesLess (xs.drop (k + 1)) (ys.drop (k + 1)) else decide (xs.getD k 0 < ys.getD k 0) := by
  rw [List.drop_eq_getElem_cons hx, List.drop_eq_getElem_cons hy]
  simp [bytesLess, List.getD, hx, hy]

theorem cell_inj {x y : UInt8} : cell x = cell y ↔ x = y := by
  constructor
  · intro h
    simp [cell] at h
    exact UInt8.toNat_inj.1 (by omega)
  · rintro rfl; rfl

/-- Two boxes of sixteen bytes. -/
structure Two16 (w : World) (g1 g2 : Nat) (u1 u2 : Id16) (wr : World) : Prop where
  r1 : wr.rangeAt g1 0 u1.cells
  r2 : wr.rangeAt g2 0 u2.cells
  bel : Below w.heap.size w wr
theorem Two16.drew {w : World} {g1 g2 : Nat} {u1 u2 : Id16} {wr : World} (h : Two16 w g1 g2 u1 u2 wr) : Two16 w g1 g2 u1 u2 wr.drew :=
  ⟨by rw [World.rangeAt_drew]; exact h.r1, by rw [World.rangeAt_drew]; exact h.r2, h.bel.drew⟩

theorem Id16.at {w : World} {g : Nat} {u : Id16} (h : w.rangeAt g 0 u.cells) (k : Nat) (hk : k < 16) : w.cell? ⟨g, k, none⟩ = some (.int .u8 (u.l.getD k 0).toNat) := by
  have hl : k < u.l.length := by rw [u.len]; exact hk
  have := h k (cell (u.l.getD k 0)) (by simp [Id16.cells, List.getD, hl])
  rw [Nat.zero_add] at this
  exact this

set_option maxHeartbeats 2000000 in
theorem less_any (n1 : Int) (u1 : Id16) (n2 : Int) (u2 : Id16) (w : World) :
    Calls Tryf.prog 22 #[.int .u64 n1, .agg u1.cells.toArray, .int .u64 n2, .agg u2.cells.toArray] w (BoolPost (tagLess n1 u1 n2 u2) w) := by
  by_cases hne : n1 = n2
  · subst hne
    have st : Two16 w w.heap.size (w.heap.size + 1) u1 u2 ((w.alloc (.cells u1.cells.toArray 36)).alloc (.cells u2.cells.toArray 36)) :=
      ⟨World.rangeAt_alloc (range_box _ _ _) _, by simpa using range_box (w.alloc (.cells u1.cells.toArray 36)) u2.cells 36, ((Below.refl _ _).alloc (Nat.le_refl _) _).alloc (by simp) _⟩
    have ST : Hid _ := st
    clear st
    go_enter Tryf.func22, Tryf.ntmps22
    go_wp2_with fail
    go_loopw [9] (fun i wr => ∃ k : Nat, k ≤ 16 ∧ i = .int .i64 k ∧ bytesLess u1.l u2.l = bytesLess (u1.l.drop k) (u2.l.drop k) ∧ Two16 w w.heap.size (w.heap.size + 1) u1 u2 wr) (fun i _ => 16 - (intOf i).toNat)
    case atStart => exact ⟨0, by omega, rfl, rfl, ST.out⟩
    case round =>
      obtain ⟨k, hk, rfl, hB, hT⟩ := hrel
      have HB : Hid _ := hB
      have HT : Hid _ := hT
      clear hB hT ST
      by_cases hlt : k < 16
      · have hd := bytesLess_drop u1.l u2.l k (by rw [u1.len]; exact hlt) (by rw [u2.len]; exact hlt)
        have HD : Hid _ := hd
        clear hd
        have a1 : wr.cell? ⟨w.heap.size, k, none⟩ = some (.int .u8 (u1.l.getD k 0).toNat) := Id16.at HT.out.r1 k hlt
        have a2 : wr.cell? ⟨w.heap.size + 1, k, none⟩ = some (.int .u8 (u2.l.getD k 0).toNat) := Id16.at HT.out.r2 k hlt
        generalize hx : u1.l.getD k 0 = x at *
        generalize hy : u2.l.getD k 0 = y at *
        have hk0 : (0 : Int) ≤ (k : Int) := by omega
        have hk2 : (k : Int) < 16 := by omega
        have F1 : ∀ w', w' = wr.drew → w'.cell? ⟨w.heap.size, k, none⟩ = some (.int .u8 x.toNat) := fun w' e => by rw [e]; simpa using a1
        have F2 : ∀ w', w' = wr.drew → w'.cell? ⟨w.heap.size + 1, k, none⟩ = some (.int .u8 y.toNat) := fun w' e => by rw [e]; simpa using a2
        have G1 : ∀ w', w' = wr.drew.drew → w'.cell? ⟨w.heap.size, k, none⟩ = some (.int .u8 x.toNat) := fun w' e => by rw [e]; simpa using a1
        have G2 : ∀ w', w' = wr.drew.drew → w'.cell? ⟨w.heap.size + 1, k, none⟩ = some (.int .u8 y.toNat) := fun w' e => by rw [e]; simpa using a2
        have HT1 : Hid _ := HT.out.drew
        have HT2 : Hid _ := HT.out.drew.drew
        have HX : Hid (x.toNat < 256 ∧ y.toNat < 256) := ⟨UInt8.toNat_lt _, UInt8.toNat_lt _⟩
        clear a1 a2 hx hy
        go_wp2_with fail
        refine wp_region_floatl (fun w' => w' = wr.drew) [(0, 7)] [] (by kernel_rfl) (by kernel_rfl) rfl ?_
        intro OPS hO
        clear hO
        simp only [segs, List.drop_succ_cons, List.drop_zero, List.take_succ_cons, List.take_zero, List.cons_append, List.nil_append, List.append_nil]
        repeat (apply take_step rfl; (case h => (intro wx hx; go_simp; try with_reducible rfl)); try simp only [Act.put, List.setIfInBounds_toArray, List.set_cons_zero, List.set_cons_succ])
        refine take_nil (rest_nil ?_)
        clear F1 F2
        by_cases hxy : x = y
        · subst hxy
          have HE : Hid (bytesLess u1.l u2.l = bytesLess (u1.l.drop (k + 1)) (u2.l.drop (k + 1))) := by
            have := HD.out; rw [if_pos rfl] at this; exact HB.out.trans this
          clear G1 G2
          go_wp2_with fail
          go_roundw
          case rel => exact ⟨k + 1, by omega, by go_num, HE.out, HT1.out⟩
          case measure => simp [intOf]; omega
        · have hxn : ¬ ((x.toNat : Int) = (y.toNat : Int)) := fun h => hxy (UInt8.toNat_inj.1 (by omega))
          have HE : Hid (tagLess n1 u1 n1 u2 = decide (x.toNat < y.toNat)) := by
            have := HD.out; rw [if_neg hxy] at this
            show tagLess n1 u1 n1 u2 = _
            rw [tagLess, if_pos rfl, HB.out, this, Bool.eq_iff_iff]
            simp [UInt8.lt_iff_toNat_lt]
          go_wp2_with fail
          refine wp_region_floatl (fun w' => w' = wr.drew.drew) [(0, 7)] [7] (by kernel_rfl) (by kernel_rfl) rfl ?_
          intro OPS hO
          simp only [List.map_cons, List.map_nil, List.getElem?_cons_succ, List.getElem?_cons_zero, List.cons.injEq, and_true] at hO
          have H7 : Hid _ := hO
          clear hO
          simp only [segs, List.drop_succ_cons, List.drop_zero, List.take_succ_cons, List.take_zero, List.cons_append, List.nil_append, List.append_nil]
          repeat (apply take_step rfl; (case h => (intro wx hx; go_simp; try with_reducible rfl)); try simp only [Act.put, List.setIfInBounds_toArray, List.set_cons_zero, List.set_cons_succ])
          refine take_nil ?_
          refine rest_step H7.out ?_
          go_wp2_with fail
          refine onlyN_mk ⟨rfl, rest_nil ?_⟩
          go_wp2_with fail
          go_ret
          refine ⟨?_, HT2.out.bel⟩
          rw [HE.out]
          rfl
      · go_wp2_with fail
        go_ret
        have : k = 16 := by omega
        subst this
        refine ⟨?_, HT.out.bel⟩
        rw [tagLess, if_pos rfl, HB.out, List.drop_of_length_le (by rw [u1.len]; exact Nat.le_refl _), List.drop_of_length_le (by rw [u2.len]; exact Nat.le_refl _)]
        rfl
  · go_enter Tryf.func22, Tryf.ntmps22
    go_wp2_with fail
    go_ret
    refine ⟨?_, ((Below.refl _ _).alloc (Nat.le_refl _) _).alloc (by simp) _⟩
    rw [tagLess, if_neg hne]
    rfl
end Go.Proofs.Qxb6615539aFmt
