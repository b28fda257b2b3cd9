import Derived.Test.Qxb6615539aFmtRows
import Derived.WalkKit
import Derived.WalkSpells
import Derived.WalkLawsBesides
import Derived.Deep.MidRow
import Derived.Stop.BytesEq
import Derived.Carry
namespace Go.Proofs.Qxb6615539aFmt
open Go.RowKit
open Extern.Stop (cell)

/-- A fact that the walk's rules shall not see. -/
def Hid (p : Prop) : Prop := p
theorem Hid.out {p : Prop} (h : Hid p) : p := h

/-- Sixteen bytes. -/
structure Id16 where
  l : List UInt8
  len : l.length = 16

theorem Id16.eq {a b : Id16} (h : a.l = b.l) : a = b := by
  cases a; cases b; cases h; rfl

def Id16.zero : Id16 := ⟨List.replicate 16 0, by simp⟩
def Id16.cells (a : Id16) : List Value := a.l.map cell
theorem Id16.cells_len (a : Id16) : a.cells.length = 16 := by simp [Id16.cells, a.len]

/-- A reply in plain fields; a message of the project is the same with one cell more. -/
structure Rep where
  id : Int
  op : Int
  key : ByteArray
  tn : Int
  tw : Id16
  val : Option (List UInt8)
  cn : Int
  cw : Id16
  rn : Int
  rw : Id16
  fenced : Bool
  deleted : Bool
  server : Int
  revision : Int

def repCells (r : Rep) (v : Value) : List Value :=
  (.int .u64 r.id :: .int .u8 r.op :: .string r.key :: .int .u64 r.tn :: r.tw.cells) ++ ((v :: .int .u64 r.cn :: r.cw.cells) ++ ((.int .u64 r.rn :: r.rw.cells) ++ [.bool r.fenced, .bool r.deleted, .int .u64 r.server, .int .u64 r.revision]))

def msgCells (r : Rep) (v : Value) : List Value := repCells r v ++ [.slice none 0 0]

theorem repCells_len (r : Rep) (v : Value) : (repCells r v).length = 59 := by simp [repCells, Id16.cells_len]
theorem msgCells_len (r : Rep) (v : Value) : (msgCells r v).length = 60 := by simp [msgCells, repCells_len]

theorem cell_one (x : UInt8) : (cell x).oneCell' = true := rfl

theorem repCells_one (r : Rep) (v : Value) (hv : v.oneCell' = true) : ∀ x ∈ repCells r v, x.oneCell' = true := by
  intro x hx
  simp only [repCells, Id16.cells, List.mem_append, List.mem_cons, List.mem_map, List.not_mem_nil, or_false] at hx
  rcases hx with (rfl | rfl | rfl | rfl | ⟨y, _, rfl⟩) | (rfl | rfl | ⟨y, _, rfl⟩) | (rfl | ⟨y, _, rfl⟩) | rfl | rfl | rfl | rfl <;> first | rfl | exact hv

theorem msgCells_one (r : Rep) (v : Value) (hv : v.oneCell' = true) : ∀ x ∈ msgCells r v, x.oneCell' = true := by
  intro x hx
  rcases List.mem_append.1 hx with h | h
  · exact repCells_one r v hv x h
  · rw [List.mem_singleton.1 h]; rfl

/-! ### The fields of a reply that lies in memory -/
section
variable {w : World} {b o : Nat} {r : Rep} {v : Value}

theorem range_app {w : World} {b o : Nat} {xs ys : List Value} (h : w.rangeAt b o (xs ++ ys)) : w.rangeAt b o xs ∧ w.rangeAt b (o + xs.length) ys := by
  refine ⟨fun j x hj => h j x ?_, fun j x hj => ?_⟩
  · rw [List.getElem?_append_left (List.getElem?_eq_some_iff.1 hj).1]; exact hj
  · have := h (xs.length + j) x (by rw [List.getElem?_append_right (by omega)]; simpa using hj)
    rw [Nat.add_assoc]; exact this

structure FieldsAt (w : World) (b o : Nat) (r : Rep) (v : Value) : Prop where
  f0 : w.cell? ⟨b, o, none⟩ = some (.int .u64 r.id)
  f1 : w.cell? ⟨b, o + 1, none⟩ = some (.int .u8 r.op)
  f2 : w.cell? ⟨b, o + 2, none⟩ = some (.string r.key)
  f3 : w.cell? ⟨b, o + 3, none⟩ = some (.int .u64 r.tn)
  f4 : w.rangeAt b (o + 4) r.tw.cells
  f20 : w.cell? ⟨b, o + 20, none⟩ = some v
  f21 : w.cell? ⟨b, o + 21, none⟩ = some (.int .u64 r.cn)
  f22 : w.rangeAt b (o + 22) r.cw.cells
  f38 : w.cell? ⟨b, o + 38, none⟩ = some (.int .u64 r.rn)
  f39 : w.rangeAt b (o + 39) r.rw.cells
  f55 : w.cell? ⟨b, o + 55, none⟩ = some (.bool r.fenced)
  f56 : w.cell? ⟨b, o + 56, none⟩ = some (.bool r.deleted)
  f57 : w.cell? ⟨b, o + 57, none⟩ = some (.int .u64 r.server)
  f58 : w.cell? ⟨b, o + 58, none⟩ = some (.int .u64 r.revision)

theorem fieldsAt (h : w.rangeAt b o (repCells r v)) : FieldsAt w b o r v := by
  obtain ⟨h1, h2⟩ := range_app h
  obtain ⟨h2, h3⟩ := range_app h2
  obtain ⟨h3, h4⟩ := range_app h3
  simp only [List.length_cons, Id16.cells_len] at h2 h3 h4
  refine ⟨h1 0 _ rfl, h1 1 _ rfl, h1 2 _ rfl, h1 3 _ rfl, fun j x hj => ?_, h2 0 _ rfl, h2 1 _ rfl, fun j x hj => ?_, h3 0 _ rfl, fun j x hj => ?_, h4 0 _ rfl, h4 1 _ rfl, h4 2 _ rfl, h4 3 _ rfl⟩
  · have := h1 (j + 4) x (by simpa using hj)
    rw [show o + 4 + j = o + (j + 4) by omega]; exact this
  · have := h2 (j + 2) x (by simpa using hj)
    rw [show o + 22 + j = o + 20 + (j + 2) by omega]; exact this
  · have := h3 (j + 1) x (by simpa using hj)
    rw [show o + 39 + j = o + 20 + 18 + (j + 1) by omega]; exact this
end

/-- The bytes that a slice of bytes holds: none: it is nil. -/
def ValIn (w : World) (v : Value) : Option (List UInt8) → Prop
  | none => v = .slice none 0 0
  | some bs => ∃ a c b o, v = .slice (some a) bs.length c ∧ (0 < bs.length → a = ⟨b, o, none⟩) ∧ w.rangeAt b o (bs.map cell)

/-- A reply lies at offset o of block b. -/
def RepAt (w : World) (b o : Nat) (r : Rep) : Prop := ∃ v, w.rangeAt b o (repCells r v) ∧ ValIn w v r.val
/-- A slice that leads somewhere leads to a block from lo on. -/
def LoV (lo : Nat) (v : Value) : Prop := ∀ q n c, v = .slice (some q) n c → lo ≤ q.block
def MsgAt (w : World) (lo b o : Nat) (r : Rep) : Prop := ∃ v, w.rangeAt b o (msgCells r v) ∧ ValIn w v r.val ∧ LoV lo v

/-- A slice of replies. -/
structure RowIn (w : World) (a : Option Addr) (b off n : Nat) (R : Nat → Rep) : Prop where
  at_ : 0 < n → a = some ⟨b, off, none⟩
  rep : ∀ j, j < n → RepAt w b (off + j * 59) (R j)
structure MsgIn (w : World) (lo : Nat) (a : Option Addr) (b off n : Nat) (R : Nat → Rep) : Prop where
  at_ : 0 < n → a = some ⟨b, off, none⟩
  rep : ∀ j, j < n → MsgAt w lo b (off + j * 60) (R j)

theorem valIn_one {w : World} {v : Value} {x : Option (List UInt8)} (h : ValIn w v x) : v.oneCell' = true := by
  cases x with
  | none => cases h; rfl
  | some bs => obtain ⟨a, c, b, o, rfl, _⟩ := h; rfl

/-! ### What stays -/
theorem Below.range {w w' : World} {b o : Nat} {cs : List Value} (h : w.rangeAt b o cs) (hb : Below w.heap.size w w') : w'.rangeAt b o cs := fun j v hj => cell_later hb (h j v hj)
theorem Below.val {w w' : World} {v : Value} {x : Option (List UInt8)} (h : ValIn w v x) (hb : Below w.heap.size w w') : ValIn w' v x := by
  cases x with
  | none => exact h
  | some bs => obtain ⟨a, c, b, o, h1, h2, h3⟩ := h; exact ⟨a, c, b, o, h1, h2, Below.range h3 hb⟩
theorem Below.rep {w w' : World} {b o : Nat} {r : Rep} (h : RepAt w b o r) (hb : Below w.heap.size w w') : RepAt w' b o r := by
  obtain ⟨v, h1, h2⟩ := h; exact ⟨v, Below.range h1 hb, Below.val h2 hb⟩
theorem Below.msg {w w' : World} {lo b o : Nat} {r : Rep} (h : MsgAt w lo b o r) (hb : Below w.heap.size w w') : MsgAt w' lo b o r := by
  obtain ⟨v, h1, h2, h3⟩ := h; exact ⟨v, Below.range h1 hb, Below.val h2 hb, h3⟩
theorem Below.row {w w' : World} {a : Option Addr} {b off n : Nat} {R : Nat → Rep} (h : RowIn w a b off n R) (hb : Below w.heap.size w w') : RowIn w' a b off n R :=
  ⟨h.at_, fun j hj => Below.rep (h.rep j hj) hb⟩
theorem Below.msgs {w w' : World} {lo : Nat} {a : Option Addr} {b off n : Nat} {R : Nat → Rep} (h : MsgIn w lo a b off n R) (hb : Below w.heap.size w w') : MsgIn w' lo a b off n R :=
  ⟨h.at_, fun j hj => Below.msg (h.rep j hj) hb⟩

theorem info49 : (Tryf.prog.info? 49).map (·.size) = some 59 := by kernel_rfl
theorem info43 : (Tryf.prog.info? 43).map (·.size) = some 60 := by kernel_rfl
theorem info39 : (Tryf.prog.info? 39).map (·.size) = some 17 := by kernel_rfl
theorem info36 : (Tryf.prog.info? 36).map (·.size) = some 16 := by kernel_rfl
theorem info65 : (Tryf.prog.info? 65).map (·.size) = some 63 := by kernel_rfl
end Go.Proofs.Qxb6615539aFmt
