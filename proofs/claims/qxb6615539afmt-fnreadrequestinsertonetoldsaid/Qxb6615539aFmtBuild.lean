import Derived.Test.Qxb6615539aFmtCopy
import Derived.Laws.Tables
namespace Go.Proofs.Qxb6615539aFmt
open Go.RowKit
open Extern.Stop (cell)

/-- A tag: its number and its writer. -/
def tagCells (n : Int) (u : Id16) : List Value := .int .u64 n :: u.cells
theorem tagCells_len (n : Int) (u : Id16) : (tagCells n u).length = 17 := by simp [tagCells, Id16.cells_len]

/-- Sixteen bytes, one by one. -/
theorem Id16.open16 (u : Id16) : ∃ a0 a1 a2 a3 a4 a5 a6 a7 a8 a9 a10 a11 a12 a13 a14 a15, u.l = [a0, a1, a2, a3, a4, a5, a6, a7, a8, a9, a10, a11, a12, a13, a14, a15] := by
  obtain ⟨l, h⟩ := u
  match l, h with
  | [a0, a1, a2, a3, a4, a5, a6, a7, a8, a9, a10, a11, a12, a13, a14, a15], _ => exact ⟨a0, a1, a2, a3, a4, a5, a6, a7, a8, a9, a10, a11, a12, a13, a14, a15, rfl⟩

theorem built39 (n : Int) (u : Id16) (w : World) : (Instr.build 39 #[(0, .int .u64 n), (1, .agg u.cells.toArray)]).run Tryf.prog w = .ok (.agg (tagCells n u).toArray) w := by
  obtain ⟨a0, a1, a2, a3, a4, a5, a6, a7, a8, a9, a10, a11, a12, a13, a14, a15, hu⟩ := u.open16
  refine run_build w 39 _ _ ?_
  unfold tagCells Id16.cells
  rw [hu]
  kernel_rfl

def zeroRep : Rep := ⟨0, 0, ByteArray.empty, 0, Id16.zero, none, 0, Id16.zero, 0, Id16.zero, false, false, 0, 0⟩
/-- A read's first request. -/
def askRep (key : ByteArray) : Rep := { zeroRep with op := 2, key := key }
/-- The store back of r. -/
def storeRep (key : ByteArray) (r : Rep) : Rep := { zeroRep with op := if r.deleted then 4 else 3, key := key, tn := r.tn, tw := r.tw, val := r.val }

theorem built39z (w : World) : (Instr.build 39 #[]).run Tryf.prog w = .ok (.agg (tagCells 0 Id16.zero).toArray) w := run_build w 39 _ _ (by kernel_rfl)

theorem built43ask (key : ByteArray) (w : World) : (Instr.build 43 #[(1, .int .u8 2), (2, .string key)]).run Tryf.prog w = .ok (.agg (msgCells (askRep key) (.slice none 0 0)).toArray) w := run_build w 43 _ _ (by kernel_rfl)

theorem built43store (op : Int) (key : ByteArray) (n : Int) (u : Id16) (a : Option Addr) (l c : Nat) (w : World) :
    (Instr.build 43 #[(1, .int .u8 op), (2, .string key), (3, .agg (tagCells n u).toArray), (4, .slice a l c)]).run Tryf.prog w = .ok (.agg (msgCells { zeroRep with op := op, key := key, tn := n, tw := u } (.slice a l c)).toArray) w := by
  obtain ⟨a0, a1, a2, a3, a4, a5, a6, a7, a8, a9, a10, a11, a12, a13, a14, a15, hu⟩ := u.open16
  refine run_build w 43 _ _ ?_
  unfold msgCells repCells tagCells Id16.cells
  simp only [hu]
  kernel_rfl

theorem built43 (r : Rep) (a : Option Addr) (l c : Nat) (w : World) :
    (Instr.build 43 #[(0, .int .u64 r.id), (1, .int .u8 r.op), (2, .string r.key), (3, .agg (tagCells r.tn r.tw).toArray), (4, .slice a l c), (5, .agg (tagCells r.cn r.cw).toArray), (6, .agg (tagCells r.rn r.rw).toArray), (7, .bool r.fenced), (8, .bool r.deleted), (9, .int .u64 r.server), (10, .int .u64 r.revision)]).run Tryf.prog w = .ok (.agg (msgCells r (.slice a l c)).toArray) w := by
  obtain ⟨id, op, key, tn, tw, val, cn, cw, rn, rw, fe, de, se, re⟩ := r
  obtain ⟨a0, a1, a2, a3, a4, a5, a6, a7, a8, a9, a10, a11, a12, a13, a14, a15, hu⟩ := tw.open16
  obtain ⟨b0, b1, b2, b3, b4, b5, b6, b7, b8, b9, b10, b11, b12, b13, b14, b15, hv⟩ := cw.open16
  obtain ⟨c0, c1, c2, c3, c4, c5, c6, c7, c8, c9, c10, c11, c12, c13, c14, c15, hx⟩ := rw.open16
  refine run_build w 43 _ _ ?_
  unfold msgCells repCells tagCells Id16.cells
  simp only [hu, hv, hx]
  kernel_rfl

/-- A read: its key, its mode, what it found, whether it has fetched. -/
def readCells (key : ByteArray) (mode : Int) (m : List Value) (f : Bool) : List Value := .string key :: .int .u8 mode :: (m ++ [.bool f])

theorem built65 (key : ByteArray) (mode : Int) (w : World) : (Instr.build 65 #[(0, .string key), (1, .int .u8 mode)]).run Tryf.prog w = .ok (.agg (readCells key mode (msgCells zeroRep (.slice none 0 0)) false).toArray) w := run_build w 65 _ _ (by kernel_rfl)
end Go.Proofs.Qxb6615539aFmt
