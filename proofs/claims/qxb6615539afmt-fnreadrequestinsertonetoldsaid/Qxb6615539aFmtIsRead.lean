import Derived.Test.Qxb6615539aFmtSame
namespace Go.Proofs.Qxb6615539aFmt
open Go.RowKit
open Extern.Stop (cell)
set_option linter.unusedSimpArgs false

theorem tagEq_self (n : Int) (u : Id16) : tagEq n u n u = true := by simp [tagEq]

/-- A message in a box of its own. -/
structure BoxAt (w : World) (g : Nat) (m : Rep) (v : Value) : Prop where
  f0 : w.cell? ⟨g, 0, none⟩ = some (.int .u64 m.id)
  f1 : w.cell? ⟨g, 1, none⟩ = some (.int .u8 m.op)
  f2 : w.cell? ⟨g, 2, none⟩ = some (.string m.key)
  f3 : w.cell? ⟨g, 3, none⟩ = some (.int .u64 m.tn)
  f4 : w.rangeAt g 4 m.tw.cells
  t3 : w.rangeAt g 3 (tagCells m.tn m.tw)
  f20 : w.cell? ⟨g, 20, none⟩ = some v
  f21 : w.cell? ⟨g, 21, none⟩ = some (.int .u64 m.cn)
  f22 : w.rangeAt g 22 m.cw.cells
  t21 : w.rangeAt g 21 (tagCells m.cn m.cw)
  f38 : w.cell? ⟨g, 38, none⟩ = some (.int .u64 m.rn)
  f39 : w.rangeAt g 39 m.rw.cells
  t38 : w.rangeAt g 38 (tagCells m.rn m.rw)
  f55 : w.cell? ⟨g, 55, none⟩ = some (.bool m.fenced)
  f56 : w.cell? ⟨g, 56, none⟩ = some (.bool m.deleted)
  f57 : w.cell? ⟨g, 57, none⟩ = some (.int .u64 m.server)
  f58 : w.cell? ⟨g, 58, none⟩ = some (.int .u64 m.revision)

theorem boxAt_rep {w : World} {g : Nat} {m : Rep} {v : Value} (h : w.rangeAt g 0 (repCells m v)) : BoxAt w g m v := by
  have F := fieldsAt h
  have f3 : w.cell? ⟨g, 3, none⟩ = some (.int .u64 m.tn) := by simpa using F.f3
  have f4 : w.rangeAt g 4 m.tw.cells := by simpa using F.f4
  have f21 : w.cell? ⟨g, 21, none⟩ = some (.int .u64 m.cn) := by simpa using F.f21
  have f22 : w.rangeAt g 22 m.cw.cells := by simpa using F.f22
  have f38 : w.cell? ⟨g, 38, none⟩ = some (.int .u64 m.rn) := by simpa using F.f38
  have f39 : w.rangeAt g 39 m.rw.cells := by simpa using F.f39
  exact ⟨F.f0, by simpa using F.f1, by simpa using F.f2, f3, f4, tag_range f3 f4, by simpa using F.f20, f21, f22, tag_range f21 f22, f38, f39, tag_range f38 f39, by simpa using F.f55, by simpa using F.f56, by simpa using F.f57, by simpa using F.f58⟩

theorem boxAt_msg {w : World} {g : Nat} {m : Rep} {v : Value} (h : w.rangeAt g 0 (msgCells m v)) : BoxAt w g m v ∧ w.cell? ⟨g, 59, none⟩ = some (.slice none 0 0) := by
  obtain ⟨h1, h2⟩ := range_app h
  rw [repCells_len] at h2
  exact ⟨boxAt_rep h1, by simpa using h2 0 _ rfl⟩

theorem tag39 (n : Int) (u : Id16) : (Tryf.prog.info? 39).map (·.size) = some (tagCells n u).length := by rw [tagCells_len]; exact info39
theorem id36 (u : Id16) : (Tryf.prog.info? 36).map (·.size) = some u.cells.length := by rw [Id16.cells_len]; exact info36
theorem id37 (u : Id16) : (Tryf.prog.info? 37).map (·.size) = some u.cells.length := by
  rw [Id16.cells_len]
  have h : (Tryf.prog.info? 37).map (·.size) = some 16 := by kernel_rfl
  exact h

/-! ### 17: zzIsReadOf -/
set_option maxHeartbeats 4000000 in
theorem isRead_any (key : ByteArray) (w : World) : Calls Tryf.prog 17 #[.agg (msgCells (askRep key) (.slice none 0 0)).toArray, .string key] w (BoolPost true w) := by
  have hq := fun w => Lib.run_eql_slice_nil (P := Tryf.prog) w 40 5 none 0 0 0 0 Tryf.underlying40
  have hq2 := fun w => Lib.run_eql_slice_nil (P := Tryf.prog) w 41 43 none 0 0 0 0 Tryf.underlying41
  obtain ⟨W, hW⟩ : ∃ W, W = w.alloc (.cells (msgCells (askRep key) (.slice none 0 0)).toArray 43) := ⟨_, rfl⟩
  have hbel : Below w.heap.size w W := by rw [hW]; exact (Below.refl _ _).alloc (Nat.le_refl _) _
  obtain ⟨B, c59⟩ : BoxAt W w.heap.size (askRep key) (.slice none 0 0) ∧ W.cell? ⟨w.heap.size, 59, none⟩ = some (.slice none 0 0) := by rw [hW]; exact boxAt_msg (range_box w _ 43)
  have f0 : W.cell? ⟨w.heap.size, 0, none⟩ = some (.int .u64 0) := B.f0
  have f1 : W.cell? ⟨w.heap.size, 1, none⟩ = some (.int .u8 2) := B.f1
  have f2 : W.cell? ⟨w.heap.size, 2, none⟩ = some (.string key) := B.f2
  have f20 := B.f20
  have f55 : W.cell? ⟨w.heap.size, 55, none⟩ = some (.bool false) := B.f55
  have f56 : W.cell? ⟨w.heap.size, 56, none⟩ = some (.bool false) := B.f56
  have f57 : W.cell? ⟨w.heap.size, 57, none⟩ = some (.int .u64 0) := B.f57
  have f58 : W.cell? ⟨w.heap.size, 58, none⟩ = some (.int .u64 0) := B.f58
  have T3 : Hid (W.rangeAt w.heap.size 3 (tagCells 0 Id16.zero)) := B.t3
  have T21 : Hid (W.rangeAt w.heap.size 21 (tagCells 0 Id16.zero)) := B.t21
  have T38 : Hid (W.rangeAt w.heap.size 38 (tagCells 0 Id16.zero)) := B.t38
  have HW : Hid (W = w.alloc (.cells (msgCells (askRep key) (.slice none 0 0)).toArray 43)) := hW
  have hte := tagEq_self 0 Id16.zero
  clear hW B
  go_enter Tryf.func17, Tryf.ntmps17
  go_upto_region 1 with fail
  rw [← HW.out]
  go_wp2_with (first | refine wpList_valueIf rfl (exec_load_mid 39 _ rfl _ _ rfl _ _ T3.out Tryf.underlying39 rfl (tag39 _ _)) ?_ | refine wpList_valueIf rfl (exec_load_mid 39 _ rfl _ _ rfl _ _ T21.out Tryf.underlying39 rfl (tag39 _ _)) ?_ | refine wpList_valueIf rfl (exec_load_mid 39 _ rfl _ _ rfl _ _ T38.out Tryf.underlying39 rfl (tag39 _ _)) ?_ | refine wpList_valueIf rfl (exec_zero39 rfl) ?_ | refine wpList_valueIf rfl (exec_eql39 _ _ _ rfl 0 Id16.zero 0 Id16.zero rfl rfl) ?_)
  go_ret
  exact ⟨rfl, hbel⟩
end Go.Proofs.Qxb6615539aFmt
