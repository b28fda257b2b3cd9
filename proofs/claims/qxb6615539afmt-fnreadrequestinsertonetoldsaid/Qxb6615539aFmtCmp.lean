import Derived.Test.Qxb6615539aFmtReq
import Derived.Lib.Bytealg
import Derived.Lib.BytesEntry
namespace Go.Proofs.Qxb6615539aFmt
open Go.RowKit
open Extern.Stop (cell)
set_option linter.unusedSimpArgs false

/-! ### 45, 43: cmp.Compare -/
def cmpInt (x y : Int) : Int := if x < y then -1 else if y < x then 1 else 0

theorem isNaN_any (x : Int) (w : World) : Calls Tryf.prog 45 #[.int .u64 x] w fun e w' => e = .returned (.bool false) ∧ w' = w := by
  go_enter Tryf.func45, Tryf.ntmps45
  go_wp2
  go_ret
  exact ⟨rfl, rfl⟩

theorem cmpInt_any (x y : Int) (w : World) : Calls Tryf.prog 43 #[.int .u64 x, .int .u64 y] w fun e w' => e = .returned (.int .i64 (cmpInt x y)) ∧ w' = w := by
  by_cases h1 : x < y
  · go_enter Tryf.func43, Tryf.ntmps43
    go_wp2_with (go_at_call 45; refine (isNaN_any _ _).mono ?_; rintro e w1 ⟨rfl, hw⟩; rw [hw]; clear hw w1)
    go_ret
    exact ⟨by simp [cmpInt, h1], rfl⟩
  · by_cases h2 : y < x
    · go_enter Tryf.func43, Tryf.ntmps43
      go_wp2_with (go_at_call 45; refine (isNaN_any _ _).mono ?_; rintro e w1 ⟨rfl, hw⟩; rw [hw]; clear hw w1)
      go_ret
      exact ⟨by simp [cmpInt, h1, h2], rfl⟩
    · go_enter Tryf.func43, Tryf.ntmps43
      go_wp2_with (go_at_call 45; refine (isNaN_any _ _).mono ?_; rintro e w1 ⟨rfl, hw⟩; rw [hw]; clear hw w1)
      go_ret
      exact ⟨by rw [cmpInt, if_neg (by omega), if_neg (by omega)]; rfl, rfl⟩

/-! ### 46, 44: bytes.Compare -/
theorem run_bytesOf {w : World} {b o : Nat} (xs : List UInt8) (n c : Nat) (hn : xs.length = n) (h : w.rangeAt b o (xs.map cell)) : (Extern.Bytes.bytesOf (.slice (some ⟨b, o, none⟩) n c)).run Tryf.prog w = .ok ⟨xs.toArray⟩ w := by
  have hl := Lib.run_loadBytesX (P := Tryf.prog) w (xs.map fun x => (x.toNat : Int)) ⟨b, o, none⟩ ByteArray.empty (fun j x hj => by
    rw [Addr.add_mid]
    simp only [List.getElem?_map, Option.map_eq_some_iff] at hj
    obtain ⟨y, hy, rfl⟩ := hj
    exact h j _ (by simp [hy, cell]))
  rw [List.length_map, hn] at hl
  have e : Lib.bytesOf (xs.map fun x => (x.toNat : Int)) = xs := by simp [Lib.bytesOf, Function.comp_def]
  rw [e] at hl
  simp only [Extern.Bytes.bytesOf]
  rw [hl]
  simp [ByteArray.empty, ByteArray.emptyWithCapacity]
  rfl

theorem call46 {w : World} {b1 o1 b2 o2 : Nat} (xs ys : List UInt8) (n1 c1 n2 c2 : Nat) (h1 : xs.length = n1) (h2 : ys.length = n2) (hx : w.rangeAt b1 o1 (xs.map cell)) (hy : w.rangeAt b2 o2 (ys.map cell)) :
    (callFunc 46 #[.slice (some ⟨b1, o1, none⟩) n1 c1, .slice (some ⟨b2, o2, none⟩) n2 c2]).run Tryf.prog w = .ok (.value (.int .i64 (Lib.compareBytes xs ys))) w := by
  rw [run_callFunc_extern Tryf.func46 (by kernel_rfl) (by kernel_rfl) (by kernel_rfl) (e := Extern.BytealgCompare.compare) (by kernel_rfl)]
  have : (Extern.BytealgCompare.compare #[.slice (some ⟨b1, o1, none⟩) n1 c1, .slice (some ⟨b2, o2, none⟩) n2 c2]).run Tryf.prog w = .ok (.int .i64 (Lib.compareBytes xs ys)) w := by
    change Sem.run Tryf.prog (do pure (goInt (Extern.BytealgCompare.cmp (← Extern.Bytes.bytesOf (.slice (some ⟨b1, o1, none⟩) n1 c1)) (← Extern.Bytes.bytesOf (.slice (some ⟨b2, o2, none⟩) n2 c2))))) w = _
    simp only [Sem.run_bind, Sem.run_pure, run_bytesOf xs n1 c1 h1 hx, run_bytesOf ys n2 c2 h2 hy, Result.andThen]
    rw [Lib.cmp_eq]
    rfl
  rw [this]
  rfl

theorem cmpBytes_any {w : World} {b1 o1 b2 o2 : Nat} (xs ys : List UInt8) (n1 c1 n2 c2 : Nat) (h1 : xs.length = n1) (h2 : ys.length = n2) (hx : w.rangeAt b1 o1 (xs.map cell)) (hy : w.rangeAt b2 o2 (ys.map cell)) :
    Calls Tryf.prog 44 #[.slice (some ⟨b1, o1, none⟩) n1 c1, .slice (some ⟨b2, o2, none⟩) n2 c2] w fun e w' => e = .returned (.int .i64 (Lib.compareBytes xs ys)) ∧ w' = w := by
  have hc := call46 xs ys n1 c1 n2 c2 h1 h2 hx hy
  go_enter Tryf.func44, Tryf.ntmps44
  go_wp2
  go_ret
  exact ⟨rfl, rfl⟩

/-! ### 40: Tag.Compare -/
def tagCmp (n1 : Int) (u1 : Id16) (n2 : Int) (u2 : Id16) : Int := if cmpInt n1 n2 ≠ 0 then cmpInt n1 n2 else Lib.compareBytes u1.l u2.l

theorem range_box (w : World) (cs : List Value) (t : TypeId) : (w.alloc (.cells cs.toArray t)).rangeAt w.heap.size 0 cs := fun j v hj => by
  rw [cell_of_row _ _ (0 + j) _ t (0, 0) (heap_alloc_last w _)]
  simpa using hj

def CmpPost (x : Int) (w : World) (e : Ending) (w' : World) : Prop := e = .returned (.int .i64 x) ∧ Below w.heap.size w w'

set_option maxHeartbeats 1000000 in
theorem tagCmp_any (n1 : Int) (u1 : Id16) (n2 : Int) (u2 : Id16) (w : World) :
    Calls Tryf.prog 40 #[.agg (tagCells n1 u1).toArray, .agg (tagCells n2 u2).toArray] w (CmpPost (tagCmp n1 u1 n2 u2) w) := by
  obtain ⟨W, hW⟩ : ∃ W, W = (w.alloc (.cells (tagCells n1 u1).toArray 39)).alloc (.cells (tagCells n2 u2).toArray 39) := ⟨_, rfl⟩
  have b1 : W.rangeAt w.heap.size 0 (tagCells n1 u1) := by rw [hW]; exact World.rangeAt_alloc (range_box _ _ _) _
  have b2 : W.rangeAt (w.heap.size + 1) 0 (tagCells n2 u2) := by
    have := range_box (w.alloc (.cells (tagCells n1 u1).toArray 39)) (tagCells n2 u2) 39
    rw [hW]; simpa using this
  have hbel : Below w.heap.size w W := by rw [hW]; exact ((Below.refl _ _).alloc (Nat.le_refl _) _).alloc (by simp) _
  have c1 : W.cell? ⟨w.heap.size, 0, none⟩ = some (.int .u64 n1) := b1 0 _ rfl
  have c2 : W.cell? ⟨w.heap.size + 1, 0, none⟩ = some (.int .u64 n2) := b2 0 _ rfl
  have d1 : W.rangeAt w.heap.size 1 (u1.l.map cell) := fun j x hj => by
    have := b1 (j + 1) x (by simpa [tagCells, Id16.cells] using hj)
    rwa [show 0 + (j + 1) = 1 + j by omega] at this
  have d2 : W.rangeAt (w.heap.size + 1) 1 (u2.l.map cell) := fun j x hj => by
    have := b2 (j + 1) x (by simpa [tagCells, Id16.cells] using hj)
    rwa [show 0 + (j + 1) = 1 + j by omega] at this
  have HW : Hid (W = (w.alloc (.cells (tagCells n1 u1).toArray 39)).alloc (.cells (tagCells n2 u2).toArray 39)) := hW
  have D1 : Hid (W.rangeAt w.heap.size 1 (u1.l.map cell)) := d1
  have D2 : Hid (W.rangeAt (w.heap.size + 1) 1 (u2.l.map cell)) := d2
  clear hW d1 d2 b1 b2
  by_cases h0 : cmpInt n1 n2 = 0
  · go_enter Tryf.func40, Tryf.ntmps40
    go_upto_region 1 with fail
    rw [← HW.out]
    go_wp2_with (go_at_call 43; refine (cmpInt_any _ _ _).mono ?_; rintro e w1 ⟨rfl, hw⟩; rw [hw, h0]; clear hw w1)
    refine wp_region_floatl (fun w' => w' = W.drew) [(0, 4)] [4, 5] (by kernel_rfl) (by kernel_rfl) rfl ?_
    intro OPS hO
    simp only [List.map_cons, List.map_nil, List.getElem?_cons_succ, List.getElem?_cons_zero, List.cons.injEq, and_true] at hO
    obtain ⟨h4, h5⟩ := hO
    simp only [segs, List.drop_succ_cons, List.drop_zero, List.take_succ_cons, List.take_zero, List.cons_append, List.nil_append, List.append_nil]
    have H4 : Hid _ := h4
    have H5 : Hid _ := h5
    clear h4 h5
    repeat (apply take_step rfl; (case h => (intro wx hx; go_simp; try with_reducible rfl)); try simp only [Act.put, List.setIfInBounds_toArray, List.set_cons_zero, List.set_cons_succ])
    refine take_nil ?_
    refine rest_step H4.out ?_
    have E1 : Hid (W.drew.rangeAt w.heap.size 1 (u1.l.map cell)) := by rw [Hid, World.rangeAt_drew]; exact D1.out
    have E2 : Hid (W.drew.rangeAt (w.heap.size + 1) 1 (u2.l.map cell)) := by rw [Hid, World.rangeAt_drew]; exact D2.out
    go_wp2_with (go_at_call 44; refine (cmpBytes_any u1.l u2.l 16 16 16 16 u1.len u2.len E1.out E2.out).mono ?_; rintro e w1 ⟨rfl, hw⟩; rw [hw]; clear hw w1)
    refine onlyN_mk ⟨rfl, ?_⟩
    refine rest_step H5.out ?_
    go_wp2_with fail
    refine onlyN_mk ⟨rfl, rest_nil ?_⟩
    go_wp2_with fail
    go_ret
    exact ⟨by simp [tagCmp, h0], hbel.drew⟩
  · go_enter Tryf.func40, Tryf.ntmps40
    go_upto_region 1 with fail
    rw [← HW.out]
    go_wp2_with (go_at_call 43; refine (cmpInt_any _ _ _).mono ?_; rintro e w1 ⟨rfl, hw⟩; rw [hw]; clear hw w1)
    go_ret
    exact ⟨by simp [tagCmp, h0], hbel⟩

/-! ### 39: highest's function -/
theorem msg_tag {w : World} {b o : Nat} {r : Rep} {v : Value} (h : w.rangeAt b o (msgCells r v)) : w.rangeAt b (o + 3) (tagCells r.tn r.tw) :=
  tag_range (msg_fields h).1.f3 (msg_fields h).1.f4

def repCmp (a b : Rep) : Int := tagCmp a.tn a.tw b.tn b.tw

set_option maxHeartbeats 1000000 in
theorem hiFn_any (r1 r2 : Rep) (v1 v2 : Value) (w : World) :
    Calls Tryf.prog 39 #[.agg (msgCells r1 v1).toArray, .agg (msgCells r2 v2).toArray] w (CmpPost (repCmp r1 r2) w) := by
  obtain ⟨W, hW⟩ : ∃ W, W = (w.alloc (.cells (msgCells r1 v1).toArray 43)).alloc (.cells (msgCells r2 v2).toArray 43) := ⟨_, rfl⟩
  have b1 : W.rangeAt w.heap.size 3 (tagCells r1.tn r1.tw) := by
    have := msg_tag (World.rangeAt_alloc (range_box w (msgCells r1 v1) 43) (.cells (msgCells r2 v2).toArray 43))
    rw [hW]; exact this
  have b2 : W.rangeAt (w.heap.size + 1) 3 (tagCells r2.tn r2.tw) := by
    have := msg_tag (range_box (w.alloc (.cells (msgCells r1 v1).toArray 43)) (msgCells r2 v2) 43)
    rw [hW]; simpa using this
  have hbel : Below w.heap.size w W := by rw [hW]; exact ((Below.refl _ _).alloc (Nat.le_refl _) _).alloc (by simp) _
  have hi1 : (Tryf.prog.info? 39).map (·.size) = some (tagCells r1.tn r1.tw).length := by rw [tagCells_len]; exact info39
  have hi2 : (Tryf.prog.info? 39).map (·.size) = some (tagCells r2.tn r2.tw).length := by rw [tagCells_len]; exact info39
  have HW : Hid (W = (w.alloc (.cells (msgCells r1 v1).toArray 43)).alloc (.cells (msgCells r2 v2).toArray 43)) := hW
  clear hW
  go_enter Tryf.func39, Tryf.ntmps39
  go_upto_region 1 with fail
  rw [← HW.out]
  go_wp2_with (first | refine wpList_load_mid rfl 39 _ rfl _ _ rfl _ _ b1 Tryf.underlying39 rfl hi1 ?_ | refine wpList_load_mid rfl 39 _ rfl _ _ rfl _ _ b2 Tryf.underlying39 rfl hi2 ?_ | (go_at_call 40; refine (tagCmp_any _ _ _ _ _).mono ?_; rintro e w1 ⟨rfl, hb⟩))
  go_ret
  exact ⟨rfl, hbel.trans (hb.mono hbel.size)⟩
end Go.Proofs.Qxb6615539aFmt
