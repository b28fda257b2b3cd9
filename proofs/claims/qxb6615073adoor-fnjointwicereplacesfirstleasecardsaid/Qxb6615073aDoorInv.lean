import Derived.Test.Qxb6615073aDoorPure
import Derived.Deep.RegionHeld3
import Derived.Deep.AppendLies
import Derived.Deep.DrawnRows
import Derived.Maps.RangeWalk
namespace Go.Proofs.Qxb6615073aDoor
open Go.RowKit

theorem orMap {a b c d : Prop} (f : a → c) (g : b → d) (h : a ∨ b) : c ∨ d := h.elim (fun x => Or.inl (f x)) (fun x => Or.inr (g x))

/-! ## What is fixed through the law: blocks B on are the call's own; c: the records; M, R, P: its three maps (members, roles, replaced) -/
structure Cx where
  B : Nat
  c : Nat
  M : Nat
  R : Nat
  P : Nat
  l : Int
  d : Int
  L0 : Int
  C0 : Int
  nm : ByteArray

def ptr (b : Nat) : Value := .pointer (some ⟨b, 0, none⟩)

/-- A step that turns, of what was there, at most the blocks in Y and the call's own rows of events. -/
structure Fr (B : Nat) (Y : Nat → Prop) (w w' : World) : Prop where
  os : w'.os = w.os
  tape : w'.tape = w.tape
  output : w'.output = w.output
  size : w.heap.size ≤ w'.heap.size
  block : ∀ b, b < w.heap.size → ¬ Y b → (b < B ∨ ∀ cs fr, w.heap[b]? ≠ some (.cells cs 103 fr)) → w'.heap[b]? = w.heap[b]?

theorem Fr.refl (B : Nat) (Y : Nat → Prop) (w : World) : Fr B Y w w := ⟨rfl, rfl, rfl, Nat.le_refl _, fun _ _ _ _ => rfl⟩

theorem Fr.trans {B : Nat} {Y1 Y2 Y : Nat → Prop} {w w' w'' : World} (h : Fr B Y1 w w') (k : Fr B Y2 w' w'') (h1 : ∀ b, Y1 b → Y b) (h2 : ∀ b, b < w.heap.size → Y2 b → Y b) : Fr B Y w w'' :=
  ⟨k.os.trans h.os, k.tape.trans h.tape, k.output.trans h.output, Nat.le_trans h.size k.size, fun b hb a6 a7 => by
    have e := h.block b hb (fun hx => a6 (h1 b hx)) a7
    rw [← e]
    exact k.block b (Nat.lt_of_lt_of_le hb h.size) (fun hx => a6 (h2 b hb hx)) (orMap id (fun q cs fr => by rw [e]; exact q cs fr) a7)⟩

theorem Fr.mono {B : Nat} {Y Y' : Nat → Prop} {w w' : World} (h : Fr B Y w w') (hx : ∀ b, Y b → Y' b) : Fr B Y' w w' :=
  ⟨h.os, h.tape, h.output, h.size, fun b hb a6 a7 => h.block b hb (fun q => a6 (hx b q)) a7⟩

/-- New blocks alone. -/
theorem Fr.of_below {B : Nat} {Y : Nat → Prop} {w w' : World} (h : Below w.heap.size w w') : Fr B Y w w' :=
  ⟨h.os, h.tape, h.output, h.size, fun b hb _ _ => h.block b hb⟩

theorem Fr.alloc {B : Nat} {Y : Nat → Prop} {w w' : World} (h : Fr B Y w w') (o : Obj) : Fr B Y w (w'.alloc o) :=
  h.trans (Fr.of_below (Y := fun _ => False) ((Below.refl _ _).alloc (Nat.le_refl _) _)) (fun _ q => q) (fun _ _ q => q.elim)

theorem Fr.drewN {B : Nat} {Y : Nat → Prop} {w w' : World} (h : Fr B Y w w') (n : Nat) : Fr B Y w (w'.drewN n) := ⟨h.os, h.tape, h.output, h.size, h.block⟩

theorem Fr.setCell {B : Nat} {Y : Nat → Prop} {w w' : World} (h : Fr B Y w w') {a : Addr} (ha : Y a.block ∨ w.heap.size ≤ a.block) (v : Value) : Fr B Y w (w'.setCell a v) :=
  ⟨h.os, h.tape, h.output, by simpa [World.setCell] using h.size, fun b hb a6 a7 => by
    rw [Go.Deep.blk_setCell_other _ _ _ _ (fun e => by subst e; rcases ha with ha | ha; exact a6 ha; omega)]
    exact h.block b hb a6 a7⟩

/-- A block of cells of another type than the events', kept. -/
theorem Fr.keeps {B : Nat} {Y : Nat → Prop} {w w' : World} (h : Fr B Y w w') {b : Nat} {cs : Array Value} {t : TypeId} {f : Nat × Nat} (hb : w.heap[b]? = some (.cells cs t f)) (hY : ¬ Y b) (ht : t ≠ 103) : w'.heap[b]? = some (.cells cs t f) := by
  have hlt : b < w.heap.size := (Array.getElem?_eq_some_iff.1 hb).1
  rw [h.block b hlt hY (Or.inr (fun cs' fr e => by rw [hb] at e; simp at e; exact ht e.2.1))]
  exact hb
theorem Fr.keepsMap {B : Nat} {Y : Nat → Prop} {w w' : World} (h : Fr B Y w w') {b : Nat} {es : Array MapEntry} {ck : Nat} (hb : w.heap[b]? = some (.map es ck)) (hY : ¬ Y b) : w'.heap[b]? = some (.map es ck) := by
  have hlt : b < w.heap.size := (Array.getElem?_eq_some_iff.1 hb).1
  rw [h.block b hlt hY (Or.inr (fun cs' fr e => by rw [hb] at e; simp at e))]
  exact hb
theorem Fr.below {B : Nat} {Y : Nat → Prop} {w w' : World} (h : Fr B Y w w') (hB : B ≤ w.heap.size) (hY : ∀ b, Y b → B ≤ b) : Below B w w' :=
  ⟨h.os, h.tape, h.output, h.size, fun k hk => h.block k (by omega) (fun q => by have := hY k q; omega) (Or.inl hk)⟩

/-- The records, at 'last = L'; the changes are counted in step. -/
def RecAt (K : Cx) (L : Int) (w : World) : Prop :=
  w.heap[K.c]? = some (.cells #[.int .i64 K.l, .int .i64 K.d, .int .i64 0, .int .i64 0, .int .i64 0, .int .i64 0, .map (some K.M), .map (some K.R), .map (some K.P), .int .i64 L, .int .u64 (IntKind.u64.wrap (K.C0 + (L - K.L0)))] 55 (0, 0))

/-- The txn: no error; its events lie in a row of its own, at most N of them. -/
def TxnAt (K : Cx) (T : Nat) (now ge : Int) (N : Nat) (w : World) : Prop :=
  ∃ v n xs gm gl gr gh gk ca x11 x12 x13 x14, w.heap[T]? = some (.cells #[ptr K.c, .int .i64 now, v, .nilIface, gm, .int .i64 ge, gl, gr, gh, gk, ca, x11, x12, x13, x14] 67 (0, 0)) ∧ w.ownsRow K.B 103 1 v n xs ∧ n ≤ N

theorem cell_of {w : World} {b : Nat} {cs : Array Value} {t : TypeId} {f : Nat × Nat} (h : w.heap[b]? = some (.cells cs t f)) (i : Nat) : w.cell? ⟨b, i, none⟩ = cs[i]? := by
  simp [World.cell?, h]
theorem frozen_of {w : World} {b : Nat} {cs : Array Value} {t : TypeId} (h : w.heap[b]? = some (.cells cs t (0, 0))) (i : Nat) : w.frozen? ⟨b, i, none⟩ = false := by
  simp [World.frozen?, h]
theorem heap_set {w : World} {b : Nat} {cs : Array Value} {t : TypeId} {f : Nat × Nat} (h : w.heap[b]? = some (.cells cs t f)) (i : Nat) (v : Value) :
    (w.setCell ⟨b, i, none⟩ v).heap[b]? = some (.cells (cs.setIfInBounds i v) t f) := by
  simp [World.setCell, Array.getElem?_modify, h]

end Go.Proofs.Qxb6615073aDoor
