import Derived.Test.Qxb6615539aFmtHi
import Derived.Laws.StructEq
import Derived.Stop.BytesEq
namespace Go.Proofs.Qxb6615539aFmt
open Go.RowKit
open Extern.Stop (cell)
set_option linter.unusedSimpArgs false

theorem size5 (w : World) : (sizeOf 5).run Tryf.prog w = .ok 1 w := by kernel_rfl
theorem size37 (w : World) : (sizeOf 37).run Tryf.prog w = .ok 16 w := by kernel_rfl

theorem equalIn36 (d : Nat) (u1 u2 : Id16) (w : World) : (Op.equalIn (d + 2) 36 (.agg u1.cells.toArray) (.agg u2.cells.toArray)).run Tryf.prog w = .ok (u1.l == u2.l) w :=
  run_equalIn_bytes w d 36 5 16 Tryf.underlying36 Tryf.underlying5 size5 u1.l u2.l u1.len u2.len
theorem equalIn37 (d : Nat) (u1 u2 : Id16) (w : World) : (Op.equalIn (d + 2) 37 (.agg u1.cells.toArray) (.agg u2.cells.toArray)).run Tryf.prog w = .ok (u1.l == u2.l) w :=
  run_equalIn_bytes w d 37 5 16 Tryf.underlying37 Tryf.underlying5 size5 u1.l u2.l u1.len u2.len

/-- Whether two tags are one. -/
def tagEq (n1 : Int) (u1 : Id16) (n2 : Int) (u2 : Id16) : Bool := n1 == n2 && u1.l == u2.l

theorem part0 (n : Int) (u : Id16) (w : World) : (part 34 (tagCells n u).toArray 0).run Tryf.prog w = .ok (.int .u64 n) w := by
  simp [part, isAgg, run_underlying Tryf.underlying34, tagCells]
theorem part1 (n : Int) (u : Id16) (w : World) : (part 37 (tagCells n u).toArray 1).run Tryf.prog w = .ok (.agg u.cells.toArray) w := by
  have e : (tagCells n u).toArray.extract 1 (1 + 16) = u.cells.toArray := by
    have := u.cells_len
    simp [tagCells, List.take_of_length_le, this]
  have ha : (isAgg 37).run Tryf.prog w = .ok true w := by simp [isAgg, run_underlying Tryf.underlying37]
  rw [part, Sem.run_bind, ha]
  simp only [Result.andThen_ok, if_true, Sem.run_bind, size37, Sem.run_pure, e]

theorem equalIn39 (d : Nat) (n1 : Int) (u1 : Id16) (n2 : Int) (u2 : Id16) (w : World) : (Op.equalIn (d + 3) 39 (.agg (tagCells n1 u1).toArray) (.agg (tagCells n2 u2).toArray)).run Tryf.prog w = .ok (tagEq n1 u1 n2 u2) w := by
  have hf : Tryf.prog.fieldsOf 39 = #[{ name := "Number", type := 34, offset := 0, embedded := false, tag := "", pkgPath := "", byteOffset := 0 }, { name := "Writer", type := 37, offset := 1, embedded := false, tag := "", pkgPath := "", byteOffset := 8 }] := by
    unfold Program.fieldsOf; rw [Tryf.underlying39]
  rw [run_equalIn_struct w (d + 2) 39 _ _ (by rw [hf]; exact Tryf.underlying39) (by kernel_rfl), hf]
  simp only [Op.eqFields]
  simp only [Sem.run_bind, part0, part1, Result.andThen_ok, run_equalIn_int w (d + 1) 34 .u64 .u64 n1 n2 Tryf.underlying34, equalIn37, ne_eq, String.reduceEq, not_false_eq_true, if_true]
  cases h1 : (n1 == n2) <;> cases h2 : (u1.l == u2.l) <;> simp [tagEq, h1, h2, equalIn37, part1]

theorem g36 : Tryf.prog.eqGuardType Tryf.prog.depth 36 = false := by kernel_rfl
theorem g37 : Tryf.prog.eqGuardType Tryf.prog.depth 37 = false := by kernel_rfl
theorem g39 : Tryf.prog.eqGuardType Tryf.prog.depth 39 = false := by kernel_rfl

section
variable {op : Oper} {a : Act} {w : World}
theorem exec_neq39 (x y : Operand) (t : TypeId) (ho : op.op = .binOp .neq 39 x y t) (n1 : Int) (u1 : Id16) (n2 : Int) (u2 : Id16) (hx : a.eval x = .agg (tagCells n1 u1).toArray) (hy : a.eval y = .agg (tagCells n2 u2).toArray) :
    (execOp a.eval op).run Tryf.prog w = .ok (.value (.bool (!tagEq n1 u1 n2 u2))) w := by
  unfold execOp
  simp only [ho, hx, hy, Sem.run_bind, run_eqGuard_agg (P := Tryf.prog) w .neq 39 x y _ _ g39, Result.andThen_ok, run_neq_struct, equalIn39 9997, Sem.run_pure]
theorem exec_eql39 (x y : Operand) (t : TypeId) (ho : op.op = .binOp .eql 39 x y t) (n1 : Int) (u1 : Id16) (n2 : Int) (u2 : Id16) (hx : a.eval x = .agg (tagCells n1 u1).toArray) (hy : a.eval y = .agg (tagCells n2 u2).toArray) :
    (execOp a.eval op).run Tryf.prog w = .ok (.value (.bool (tagEq n1 u1 n2 u2))) w := by
  unfold execOp
  simp only [ho, hx, hy, Sem.run_bind, run_eqGuard_agg (P := Tryf.prog) w .eql 39 x y _ _ g39, Result.andThen_ok, run_eql_struct, equalIn39 9997, Sem.run_pure]
theorem exec_eql36 (x y : Operand) (t : TypeId) (ho : op.op = .binOp .eql 36 x y t) (u1 u2 : Id16) (hx : a.eval x = .agg u1.cells.toArray) (hy : a.eval y = .agg u2.cells.toArray) :
    (execOp a.eval op).run Tryf.prog w = .ok (.value (.bool (u1.l == u2.l))) w := by
  unfold execOp
  simp only [ho, hx, hy, Sem.run_bind, run_eqGuard_agg (P := Tryf.prog) w .eql 36 x y _ _ g36, Result.andThen_ok, run_eql_struct, equalIn36 9998, Sem.run_pure]
theorem exec_eql37 (x y : Operand) (t : TypeId) (ho : op.op = .binOp .eql 37 x y t) (u1 u2 : Id16) (hx : a.eval x = .agg u1.cells.toArray) (hy : a.eval y = .agg u2.cells.toArray) :
    (execOp a.eval op).run Tryf.prog w = .ok (.value (.bool (u1.l == u2.l))) w := by
  unfold execOp
  simp only [ho, hx, hy, Sem.run_bind, run_eqGuard_agg (P := Tryf.prog) w .eql 37 x y _ _ g37, Result.andThen_ok, run_eql_struct, equalIn37 9998, Sem.run_pure]
theorem exec_zero39 (ho : op.op = .build 39 #[]) : (execOp a.eval op).run Tryf.prog w = .ok (.value (.agg (tagCells 0 Id16.zero).toArray)) w := by
  unfold execOp
  simp only [ho, List.map_toArray, List.map_nil, Sem.run_bind, built39z, Result.andThen_ok, Sem.run_pure]
end

/-! ### 33: Complete's function -/
def BoolPost (b : Bool) (w : World) (e : Ending) (w' : World) : Prop := e = .returned (.bool b) ∧ Below w.heap.size w w'

def repEq (a b : Rep) : Bool := tagEq a.tn a.tw b.tn b.tw

set_option maxHeartbeats 1000000 in
theorem otherFn_any (m : Rep) (vm : Value) (q p : Nat) (key : ByteArray) (mode : Int) (r : Rep) (f : Bool) (w : World) (hq : w.cell? ⟨q, 0, none⟩ = some (.pointer (some ⟨p, 0, none⟩))) (h : ReadAt w p key mode r f) :
    Calls Tryf.prog 33 #[.agg (msgCells m vm).toArray, .pointer (some ⟨q, 0, none⟩)] w (BoolPost (!repEq m r) w) := by
  obtain ⟨v, h1, _, _, _⟩ := h
  obtain ⟨W, hW⟩ : ∃ W, W = w.alloc (.cells (msgCells m vm).toArray 43) := ⟨_, rfl⟩
  have hbel : Below w.heap.size w W := by rw [hW]; exact (Below.refl _ _).alloc (Nat.le_refl _) _
  have b1 : W.rangeAt w.heap.size 3 (tagCells m.tn m.tw) := by rw [hW]; exact msg_tag (range_box w (msgCells m vm) 43)
  have b2 : W.rangeAt p 5 (tagCells r.tn r.tw) := Below.range (msg_tag (readIs h1).msg) hbel
  have c1 : W.cell? ⟨q, 0, none⟩ = some (.pointer (some ⟨p, 0, none⟩)) := cell_later hbel hq
  have i1 : (Tryf.prog.info? 39).map (·.size) = some (tagCells m.tn m.tw).length := by rw [tagCells_len]; exact info39
  have i2 : (Tryf.prog.info? 39).map (·.size) = some (tagCells r.tn r.tw).length := by rw [tagCells_len]; exact info39
  have F1 : ∀ w', w' = W.drew → w'.rangeAt w.heap.size 3 (tagCells m.tn m.tw) := fun w' e => by rw [e, World.rangeAt_drew]; exact b1
  have F2 : ∀ w', w' = W.drew → w'.rangeAt p 5 (tagCells r.tn r.tw) := fun w' e => by rw [e, World.rangeAt_drew]; exact b2
  have F3 : ∀ w', w' = W.drew → w'.cell? ⟨q, 0, none⟩ = some (.pointer (some ⟨p, 0, none⟩)) := fun w' e => by rw [e]; simpa using c1
  have HW : Hid (W = w.alloc (.cells (msgCells m vm).toArray 43)) := hW
  clear hW b1 b2 c1 h1 hq
  go_enter Tryf.func33, Tryf.ntmps33
  go_upto_region 1 with fail
  rw [← HW.out]
  refine wp_region_floatl (fun w' => w' = W.drew) [(0, 8)] [8] (by kernel_rfl) (by kernel_rfl) rfl ?_
  intro OPS hO
  simp only [List.map_cons, List.map_nil, List.getElem?_cons_succ, List.getElem?_cons_zero, List.cons.injEq, and_true] at hO
  have H8 : Hid _ := hO
  clear hO
  simp only [segs, List.drop_succ_cons, List.drop_zero, List.take_succ_cons, List.take_zero, List.cons_append, List.nil_append, List.append_nil]
  repeat (apply take_step rfl; (case h => (intro wx hx; first | exact exec_load_mid 39 _ rfl _ _ rfl _ _ (F1 wx hx) Tryf.underlying39 rfl i1 | exact exec_load_mid 39 _ rfl _ _ rfl _ _ (F2 wx hx) Tryf.underlying39 rfl i2 | exact exec_neq39 _ _ _ rfl _ _ _ _ rfl rfl | (go_simp; try with_reducible rfl))); try simp only [Act.put, List.setIfInBounds_toArray, List.set_cons_zero, List.set_cons_succ])
  refine take_nil ?_
  refine rest_step H8.out ?_
  go_wp2_with fail
  refine onlyN_mk ⟨rfl, rest_nil ?_⟩
  go_wp2_with fail
  go_ret
  exact ⟨rfl, hbel.drew⟩
end Go.Proofs.Qxb6615539aFmt
