import Derived.Test.Qxb6608999aRows
import Derived.WalkKit
import Derived.WalkSpells
import Derived.WalkLawsBesides
import Derived.BigQuiet
import Derived.Deep.QuietTactic
import Derived.Deep.MidRow
import Derived.Deep.OwnRows
import Derived.Deep.WholeRow
import Derived.Stop.BytesEq
import Derived.Laws.StructEq
import Derived.Laws.MakeOwn
import Derived.Carry
namespace Go.Proofs.Qxb6608999a
open Go.RowKit
open Extern.Stop (cell)
set_option linter.unusedSimpArgs false

/-- A fact that the walk's rules shall not see. -/
def Hid (p : Prop) : Prop := p
theorem Hid.out {p : Prop} (h : Hid p) : p := h

/-- Twenty bytes. -/
structure Id20 where
  l : List UInt8
  len : l.length = 20
theorem Id20.eq {a b : Id20} (h : a.l = b.l) : a = b := by
  cases a; cases b; cases h; rfl
def Id20.cells (a : Id20) : List Value := a.l.map cell
theorem Id20.cells_len (a : Id20) : a.cells.length = 20 := by simp [Id20.cells, a.len]
theorem Id20.one (a : Id20) : ∀ x ∈ a.cells, x.oneCell' = true := fun x hx => by
  obtain ⟨y, _, rfl⟩ := List.mem_map.1 hx
  rfl
def Id20.zero : Id20 := ⟨List.replicate 20 0, by simp⟩

/-- A slice of ids. -/
structure RowIn (w : World) (a : Option Addr) (b off n : Nat) (R : Nat → Id20) : Prop where
  at_ : 0 < n → a = some ⟨b, off, none⟩
  row : ∀ j, j < n → w.rangeAt b (off + j * 20) (R j).cells

theorem Below.range {w w' : World} {b o : Nat} {cs : List Value} (h : w.rangeAt b o cs) (hb : Below w.heap.size w w') : w'.rangeAt b o cs := fun j v hj => cell_later hb (h j v hj)
theorem Below.row {w w' : World} {a : Option Addr} {b off n : Nat} {R : Nat → Id20} (h : RowIn w a b off n R) (hb : Below w.heap.size w w') : RowIn w' a b off n R :=
  ⟨h.at_, fun j hj => Below.range (h.row j hj) hb⟩
theorem below_drewN {B : Nat} {a w : World} (h : Below B a w) (n : Nat) : Below B a (w.drewN n) := ⟨h.os, h.tape, h.output, h.size, h.block⟩

theorem info31 : (Try.prog.info? 31).map (·.size) = some 20 := by kernel_rfl
theorem info32 : (Try.prog.info? 32).map (·.size) = some 20 := by kernel_rfl
theorem id31 (u : Id20) : (Try.prog.info? 31).map (·.size) = some u.cells.length := by rw [Id20.cells_len]; exact info31
theorem id32 (u : Id20) : (Try.prog.info? 32).map (·.size) = some u.cells.length := by rw [Id20.cells_len]; exact info32

theorem range_box (w : World) (cs : List Value) (t : TypeId) : (w.alloc (.cells cs.toArray t)).rangeAt w.heap.size 0 cs := fun j v hj => by
  rw [cell_of_row _ _ (0 + j) _ t (0, 0) (heap_alloc_last w _)]
  simpa using hj

theorem exec_load_mid {op : Oper} {a : Act} {w : World} (ty : TypeId) (x : Operand) (ho : op.op = .load ty x) (b o : Nat) (hx : a.eval x = .pointer (some ⟨b, o, none⟩)) (cs : List Value) (d : TypeDesc) (hc : w.rangeAt b o cs)
    (hu : Try.prog.underlying ty = some d) (hd : d.isRow = true) (hi : (Try.prog.info? ty).map (·.size) = some cs.length) : (execOp a.eval op).run Try.prog w = .ok (.value (.agg cs.toArray)) w := by
  unfold execOp
  simp only [ho, hx, Instr.loadAt, Instr.sureAddr, Sem.run_bind, Sem.run_pure, Result.andThen_ok, run_loadVar_mid w b o ty cs d hc hu hd hi]

theorem wpList_valueIf {ops : Array Oper} {rest : List Oper} {op : Oper} {a : Act} {w : World} {Q : Exit → Act → World → Prop} {v : Value} (hw : Region.wanted op (yielded ops a.tmps) = true) (h : (execOp a.eval op).run Try.prog w = .ok (.value v) w)
    (hn : wpList Try.prog ops Q rest (a.put op.dst v) w) : wpList Try.prog ops Q (op :: rest) a w := by
  unfold wpList
  rw [if_pos hw]
  refine .inl ?_
  unfold Oper.wp
  rw [h]
  exact hn

/-! ### Two ids, equal or not -/
theorem size5 (w : World) : (sizeOf 5).run Try.prog w = .ok 1 w := by kernel_rfl
theorem equalIn31 (d : Nat) (u1 u2 : Id20) (w : World) : (Op.equalIn (d + 2) 31 (.agg u1.cells.toArray) (.agg u2.cells.toArray)).run Try.prog w = .ok (u1.l == u2.l) w :=
  run_equalIn_bytes w d 31 5 20 Try.underlying31 Try.underlying5 size5 u1.l u2.l u1.len u2.len
theorem g31 : Try.prog.eqGuardType Try.prog.depth 31 = false := by kernel_rfl
theorem exec_neq31 {op : Oper} {a : Act} {w : World} (x y : Operand) (t : TypeId) (ho : op.op = .binOp .neq 31 x y t) (u1 u2 : Id20) (hx : a.eval x = .agg u1.cells.toArray) (hy : a.eval y = .agg u2.cells.toArray) :
    (execOp a.eval op).run Try.prog w = .ok (.value (.bool (!(u1.l == u2.l)))) w := by
  unfold execOp
  simp only [ho, hx, hy, Sem.run_bind, run_eqGuard_agg (P := Try.prog) w .neq 31 x y _ _ g31, Result.andThen_ok, run_neq_struct, equalIn31 9998, Sem.run_pure]

/-! ### 6: the bound -/
def BoolOnly (w : World) (e : Ending) (w' : World) : Prop := Below w.heap.size w w' ∧ ∃ r : Bool, e = .returned (.bool r)
theorem bytes6 (a : Option Addr) (b off n c : Nat) (R : Nat → Id20) (k : Int) (w : World) (hn : n ≤ 9223372036854775807) (h : RowIn w a b off n R) :
    Calls Try.prog 6 #[.int .i64 k, .slice a n c] w (BoolOnly w) := by
  have H : Hid _ := h
  clear h
  by_cases h2 : (n : Int) > 1048576
  · go_enter Try.func6, Try.ntmps6
    go_wp2
    go_ret
    exact ⟨Below.refl _ _, _, rfl⟩
  go_enter Try.func6, Try.ntmps6
  go_wp2
  go_loop [5, 6] (fun t i => ∃ (k : Nat) (x : Int), k ≤ n ∧ i = .int .i64 k ∧ t = .int .i64 x ∧ 0 ≤ x ∧ x ≤ 1048576) (fun _ i => n - (intOf i).toNat)
  case atStart => exact ⟨0, _, Nat.zero_le _, rfl, rfl, by omega, by omega⟩
  case round =>
    obtain ⟨k, x, hk, rfl, rfl, hx0, hx⟩ := hrel
    by_cases hlt : k < n
    · obtain rfl := H.out.at_ (by omega)
      go_wp2
      all_goals first | (go_ret; exact ⟨Below.refl _ _, _, rfl⟩) | skip
      go_round
      case rel => exact ⟨k + 1, _, by omega, by go_num, rfl, by omega, by omega⟩
      case measure => simp [intOf]; omega
    · go_wp2
      go_ret
      exact ⟨Below.refl _ _, _, rfl⟩
end Go.Proofs.Qxb6608999a
