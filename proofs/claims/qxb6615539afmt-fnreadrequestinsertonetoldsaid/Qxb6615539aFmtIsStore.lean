import Derived.Test.Qxb6615539aFmtIsRead
namespace Go.Proofs.Qxb6615539aFmt
open Go.RowKit
open Extern.Stop (cell)
set_option linter.unusedSimpArgs false

/-! ### 18: zzIsStoreOf -/
set_option maxHeartbeats 8000000 in
theorem isStore_any (key : ByteArray) (x : Rep) (v1 v2 : Value) (w : World) (h1 : ValIn w v1 x.val) (h2 : ValIn w v2 x.val) (hn : (x.val.getD []).length ≤ 1048576) :
    Calls Tryf.prog 18 #[.agg (msgCells (storeRep key x) v1).toArray, .string key, .agg (repCells x v2).toArray] w (BoolPost true w) := by
  have hq2 := fun w => Lib.run_eql_slice_nil (P := Tryf.prog) w 41 43 none 0 0 0 0 Tryf.underlying41
  obtain ⟨W1, hW1⟩ : ∃ W1, W1 = w.alloc (.cells (msgCells (storeRep key x) v1).toArray 43) := ⟨_, rfl⟩
  obtain ⟨W, hW⟩ : ∃ W, W = W1.alloc (.cells (repCells x v2).toArray 49) := ⟨_, rfl⟩
  have hb1 : Below w.heap.size w W1 := by rw [hW1]; exact (Below.refl _ _).alloc (Nat.le_refl _) _
  have hb2 : Below W1.heap.size W1 W := by rw [hW]; exact (Below.refl _ _).alloc (Nat.le_refl _) _
  have hs1 : W1.heap.size = w.heap.size + 1 := by rw [hW1]; simp
  have hbel : Below w.heap.size w W := hb1.trans (hb2.mono hb1.size)
  obtain ⟨B1, c59⟩ : BoxAt W w.heap.size (storeRep key x) v1 ∧ W.cell? ⟨w.heap.size, 59, none⟩ = some (.slice none 0 0) := boxAt_msg (Below.range (by rw [hW1]; exact range_box w _ 43) hb2)
  have B2 : BoxAt W (w.heap.size + 1) x v2 := by rw [hW, ← hs1]; exact boxAt_rep (range_box W1 _ 49)
  have V1 : Hid (ValIn W v1 x.val) := Below.val h1 hbel
  have V2 : Hid (ValIn W v2 x.val) := Below.val h2 hbel
  have HN : Hid ((x.val.getD []).length ≤ 1048576) := hn
  obtain ⟨p1, l1, k1, e1, z1⟩ := valIn_slice h1
  obtain ⟨p2, l2, k2, e2, z2⟩ := valIn_slice h2
  subst e1 e2
  clear h1 h2 hn z1 z2
  have f0 : W.cell? ⟨w.heap.size, 0, none⟩ = some (.int .u64 0) := B1.f0
  have f2 : W.cell? ⟨w.heap.size, 2, none⟩ = some (.string key) := B1.f2
  have f3 : W.cell? ⟨w.heap.size, 3, none⟩ = some (.int .u64 x.tn) := B1.f3
  have T4 : Hid (W.rangeAt w.heap.size 4 x.tw.cells) := B1.f4
  have f20 := B1.f20
  have F55 : Hid (W.cell? ⟨w.heap.size, 55, none⟩ = some (.bool false)) := B1.f55
  have F56 : Hid (W.cell? ⟨w.heap.size, 56, none⟩ = some (.bool false)) := B1.f56
  have F57 : Hid (W.cell? ⟨w.heap.size, 57, none⟩ = some (.int .u64 0)) := B1.f57
  have F58 : Hid (W.cell? ⟨w.heap.size, 58, none⟩ = some (.int .u64 0)) := B1.f58
  have F59 : Hid (W.cell? ⟨w.heap.size, 59, none⟩ = some (.slice none 0 0)) := c59
  have T21 : Hid (W.rangeAt w.heap.size 21 (tagCells 0 Id16.zero)) := B1.t21
  have T38 : Hid (W.rangeAt w.heap.size 38 (tagCells 0 Id16.zero)) := B1.t38
  have g3 : W.cell? ⟨w.heap.size + 1, 3, none⟩ = some (.int .u64 x.tn) := B2.f3
  have U4 : Hid (W.rangeAt (w.heap.size + 1) 4 x.tw.cells) := B2.f4
  have g20 := B2.f20
  have g56 := B2.f56
  have HW1 : Hid (W1 = w.alloc (.cells (msgCells (storeRep key x) (.slice p1 l1 k1)).toArray 43)) := hW1
  have HW : Hid (W = W1.alloc (.cells (repCells x (.slice p2 l2 k2)).toArray 49)) := hW
  have hte := tagEq_self 0 Id16.zero
  have hue : (x.tw.l == x.tw.l) = true := by simp
  have i36 := id36 x.tw
  have i37 := id37 x.tw
  have HI36 : Hid _ := i36
  have HI37 : Hid _ := i37
  clear hW hW1 c59 hs1 i36 i37
  have f1 : W.cell? ⟨w.heap.size, 1, none⟩ = some (.int .u8 (if x.deleted then 4 else 3)) := B1.f1
  clear B1 B2
  cases hd : x.deleted
  all_goals
    rw [hd] at g56 f1
    simp only [if_true, Bool.false_eq_true, if_false] at f1
    clear hd
    go_enter Tryf.func18, Tryf.ntmps18
    go_upto_region 1 with fail
    rw [← HW1.out, ← HW.out]
    go_upto_region 4 with fail
    try dsimp only [List.append]
    go_wp2_with (first | refine wpList_valueIf rfl (exec_load_mid 37 _ rfl _ _ rfl _ _ T4.out Tryf.underlying37 rfl HI37.out) ?_ | refine wpList_valueIf rfl (exec_load_mid 36 _ rfl _ _ rfl _ _ U4.out Tryf.underlying36 rfl HI36.out) ?_ | refine wpList_valueIf rfl (exec_eql37 _ _ _ rfl x.tw x.tw rfl rfl) ?_ | (go_at_call 34; refine (same_any _ _ x.val W V1.out V2.out HN.out).mono ?_))
    rintro e w1 ⟨rfl, hbw⟩
    have f21 : Hid (w1.rangeAt w.heap.size 21 (tagCells 0 Id16.zero)) := Below.range T21.out hbw
    have f38 : Hid (w1.rangeAt w.heap.size 38 (tagCells 0 Id16.zero)) := Below.range T38.out hbw
    have f55 := cell_later hbw F55.out
    have f56 := cell_later hbw F56.out
    have f57 := cell_later hbw F57.out
    have f58 := cell_later hbw F58.out
    have f59 := cell_later hbw F59.out
    have hbe := hbel.trans (hbw.mono hbel.size)
    clear f0 f1 f2 f3 f20 g3 g20 g56 hb1 hb2
    go_wp2_with (first | refine wpList_valueIf rfl (exec_load_mid 39 _ rfl _ _ rfl _ _ f21.out Tryf.underlying39 rfl (tag39 _ _)) ?_ | refine wpList_valueIf rfl (exec_load_mid 39 _ rfl _ _ rfl _ _ f38.out Tryf.underlying39 rfl (tag39 _ _)) ?_ | refine wpList_valueIf rfl (exec_zero39 rfl) ?_ | refine wpList_valueIf rfl (exec_eql39 _ _ _ rfl 0 Id16.zero 0 Id16.zero rfl rfl) ?_)
    go_ret
    exact ⟨rfl, hbe⟩
end Go.Proofs.Qxb6615539aFmt
