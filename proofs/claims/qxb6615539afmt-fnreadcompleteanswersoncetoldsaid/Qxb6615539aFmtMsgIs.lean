import Derived.Test.Qxb6615539aFmtOne
namespace Go.Proofs.Qxb6615539aFmt
open Go.RowKit
open Extern.Stop (cell)
set_option linter.unusedSimpArgs false

/-! ### 27: zzMessageIs -/
set_option maxHeartbeats 8000000 in
theorem msgIs_any (x : Rep) (v1 v2 : Value) (w : World) (h1 : ValIn w v1 x.val) (h2 : ValIn w v2 x.val) (hn : (x.val.getD []).length ≤ 1048576) :
    Calls Tryf.prog 27 #[.agg (msgCells x v1).toArray, .agg (repCells x v2).toArray] w (BoolPost true w) := by
  have hq2 := fun w => Lib.run_eql_slice_nil (P := Tryf.prog) w 41 43 none 0 0 0 0 Tryf.underlying41
  obtain ⟨W1, hW1⟩ : ∃ W1, W1 = w.alloc (.cells (msgCells x v1).toArray 43) := ⟨_, rfl⟩
  obtain ⟨W, hW⟩ : ∃ W, W = W1.alloc (.cells (repCells x v2).toArray 49) := ⟨_, rfl⟩
  have hb1 : Below w.heap.size w W1 := by rw [hW1]; exact (Below.refl _ _).alloc (Nat.le_refl _) _
  have hb2 : Below W1.heap.size W1 W := by rw [hW]; exact (Below.refl _ _).alloc (Nat.le_refl _) _
  have hs1 : W1.heap.size = w.heap.size + 1 := by rw [hW1]; simp
  have hbel : Below w.heap.size w W := hb1.trans (hb2.mono hb1.size)
  obtain ⟨B1, c59⟩ : BoxAt W w.heap.size x v1 ∧ W.cell? ⟨w.heap.size, 59, none⟩ = some (.slice none 0 0) := boxAt_msg (Below.range (by rw [hW1]; exact range_box w _ 43) hb2)
  have B2 : BoxAt W (w.heap.size + 1) x v2 := by rw [hW, ← hs1]; exact boxAt_rep (range_box W1 _ 49)
  have V1 : Hid (ValIn W v1 x.val) := Below.val h1 hbel
  have V2 : Hid (ValIn W v2 x.val) := Below.val h2 hbel
  have HN : Hid ((x.val.getD []).length ≤ 1048576) := hn
  obtain ⟨p1, l1, k1, e1, z1⟩ := valIn_slice h1
  obtain ⟨p2, l2, k2, e2, z2⟩ := valIn_slice h2
  subst e1 e2
  clear h1 h2 hn z1 z2
  have f0 := B1.f0
  have f1 := B1.f1
  have f2 := B1.f2
  have f3 := B1.f3
  have T4 : Hid (W.rangeAt w.heap.size 4 x.tw.cells) := B1.f4
  have f20 := B1.f20
  have F21 : Hid (W.cell? ⟨w.heap.size, 21, none⟩ = some (.int .u64 x.cn)) := B1.f21
  have T22 : Hid (W.rangeAt w.heap.size 22 x.cw.cells) := B1.f22
  have F38 : Hid (W.cell? ⟨w.heap.size, 38, none⟩ = some (.int .u64 x.rn)) := B1.f38
  have T39 : Hid (W.rangeAt w.heap.size 39 x.rw.cells) := B1.f39
  have F55 : Hid (W.cell? ⟨w.heap.size, 55, none⟩ = some (.bool x.fenced)) := B1.f55
  have F56 : Hid (W.cell? ⟨w.heap.size, 56, none⟩ = some (.bool x.deleted)) := B1.f56
  have F57 : Hid (W.cell? ⟨w.heap.size, 57, none⟩ = some (.int .u64 x.server)) := B1.f57
  have F58 : Hid (W.cell? ⟨w.heap.size, 58, none⟩ = some (.int .u64 x.revision)) := B1.f58
  have F59 : Hid (W.cell? ⟨w.heap.size, 59, none⟩ = some (.slice none 0 0)) := c59
  have g0 := B2.f0
  have g1 := B2.f1
  have g2 := B2.f2
  have g3 := B2.f3
  have U4 : Hid (W.rangeAt (w.heap.size + 1) 4 x.tw.cells) := B2.f4
  have g20 := B2.f20
  have G21 : Hid (W.cell? ⟨w.heap.size + 1, 21, none⟩ = some (.int .u64 x.cn)) := B2.f21
  have U22 : Hid (W.rangeAt (w.heap.size + 1) 22 x.cw.cells) := B2.f22
  have G38 : Hid (W.cell? ⟨w.heap.size + 1, 38, none⟩ = some (.int .u64 x.rn)) := B2.f38
  have U39 : Hid (W.rangeAt (w.heap.size + 1) 39 x.rw.cells) := B2.f39
  have G55 : Hid (W.cell? ⟨w.heap.size + 1, 55, none⟩ = some (.bool x.fenced)) := B2.f55
  have G56 : Hid (W.cell? ⟨w.heap.size + 1, 56, none⟩ = some (.bool x.deleted)) := B2.f56
  have G57 : Hid (W.cell? ⟨w.heap.size + 1, 57, none⟩ = some (.int .u64 x.server)) := B2.f57
  have G58 : Hid (W.cell? ⟨w.heap.size + 1, 58, none⟩ = some (.int .u64 x.revision)) := B2.f58
  have HW1 : Hid (W1 = w.alloc (.cells (msgCells x (.slice p1 l1 k1)).toArray 43)) := hW1
  have HW : Hid (W = W1.alloc (.cells (repCells x (.slice p2 l2 k2)).toArray 49)) := hW
  have u1 : (x.tw.l == x.tw.l) = true := by simp
  have u2 : (x.cw.l == x.cw.l) = true := by simp
  have u3 : (x.rw.l == x.rw.l) = true := by simp
  clear hW hW1 c59 hs1 B1 B2
  go_enter Tryf.func27, Tryf.ntmps27
  go_upto_region 1 with fail
  rw [← HW1.out, ← HW.out]
  try dsimp only [List.append]
  go_wp2_with (first | refine wpList_valueIf rfl (exec_load_mid 37 _ rfl _ _ rfl _ _ T4.out Tryf.underlying37 rfl (id37 _)) ?_ | refine wpList_valueIf rfl (exec_load_mid 36 _ rfl _ _ rfl _ _ U4.out Tryf.underlying36 rfl (id36 _)) ?_ | refine wpList_valueIf rfl (exec_eql37 _ _ _ rfl x.tw x.tw rfl rfl) ?_ | (go_at_call 34; refine (same_any _ _ x.val W V1.out V2.out HN.out).mono ?_))
  rintro e w1 ⟨rfl, hbw⟩
  have f21 := cell_later hbw F21.out
  have t22 : Hid (w1.rangeAt w.heap.size 22 x.cw.cells) := Below.range T22.out hbw
  have f38 := cell_later hbw F38.out
  have t39 : Hid (w1.rangeAt w.heap.size 39 x.rw.cells) := Below.range T39.out hbw
  have f55 := cell_later hbw F55.out
  have f56 := cell_later hbw F56.out
  have f57 := cell_later hbw F57.out
  have f58 := cell_later hbw F58.out
  have f59 := cell_later hbw F59.out
  have g21 := cell_later hbw G21.out
  have s22 : Hid (w1.rangeAt (w.heap.size + 1) 22 x.cw.cells) := Below.range U22.out hbw
  have g38 := cell_later hbw G38.out
  have s39 : Hid (w1.rangeAt (w.heap.size + 1) 39 x.rw.cells) := Below.range U39.out hbw
  have g55 := cell_later hbw G55.out
  have g56 := cell_later hbw G56.out
  have g57 := cell_later hbw G57.out
  have g58 := cell_later hbw G58.out
  have hbe := hbel.trans (hbw.mono hbel.size)
  clear f0 f1 f2 f3 f20 g0 g1 g2 g3 g20 hb1 hb2
  go_wp2_with (first | refine wpList_valueIf rfl (exec_load_mid 37 _ rfl _ _ rfl _ _ t22.out Tryf.underlying37 rfl (id37 _)) ?_ | refine wpList_valueIf rfl (exec_load_mid 36 _ rfl _ _ rfl _ _ s22.out Tryf.underlying36 rfl (id36 _)) ?_ | refine wpList_valueIf rfl (exec_eql37 _ _ _ rfl x.cw x.cw rfl rfl) ?_ | refine wpList_valueIf rfl (exec_load_mid 37 _ rfl _ _ rfl _ _ t39.out Tryf.underlying37 rfl (id37 _)) ?_ | refine wpList_valueIf rfl (exec_load_mid 36 _ rfl _ _ rfl _ _ s39.out Tryf.underlying36 rfl (id36 _)) ?_ | refine wpList_valueIf rfl (exec_eql37 _ _ _ rfl x.rw x.rw rfl rfl) ?_)
  go_ret
  exact ⟨rfl, hbe⟩
end Go.Proofs.Qxb6615539aFmt
