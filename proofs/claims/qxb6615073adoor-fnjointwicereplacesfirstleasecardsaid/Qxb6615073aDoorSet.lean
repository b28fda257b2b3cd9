import Derived.Test.Qxb6615073aDoorNum
namespace Go.Proofs.Qxb6615073aDoor
open Go.RowKit

/-! ## From the made records to the first join, and from the first to the second -/
/-- The constants of a call: the records' blocks lie behind h blocks; what lies below B was there before. -/
def cxOf (B h : Nat) (l d L C : Int) (nm : ByteArray) : Cx := { B := B, c := h + 3, M := h, R := h + 1, P := h + 2, l := l, d := d, L0 := L, C0 := C, nm := nm }

def recObj (h : Nat) (l d L C : Int) : Obj := .cells #[.int .i64 l, .int .i64 d, .int .i64 0, .int .i64 0, .int .i64 0, .int .i64 0, .map (some h), .map (some (h + 1)), .map (some (h + 2)), .int .i64 L, .int .u64 C] 55

theorem blk_at (w : World) (o : Obj) (k : Nat) (h : k = w.heap.size) : (w.alloc o).heap[k]? = some o := by subst h; exact Go.Deep.blk_alloc_new _ _
theorem blk_lt (w : World) (o : Obj) (k : Nat) (h : k < w.heap.size) : (w.alloc o).heap[k]? = w.heap[k]? := Go.Deep.blk_alloc_lt _ _ _ h

theorem first_pre {B : Nat} {l d L C now : Int} {nm : ByteArray} {w2 w4 : World} (hB : B ≤ w2.heap.size) (hn : nm.size ≤ maxLen) (hC : 0 ≤ C ∧ C < 18446744073709551616)
    (hw : w4 = ((((w2.alloc (.map #[] 0)).alloc (.map #[] 0)).alloc (.map #[] 0)).alloc (recObj w2.heap.size l d L C)).alloc (txnObj (w2.heap.size + 3) now)) :
    Pre (cxOf B w2.heap.size l d L C nm) (w2.heap.size + 4) now L 0 (fun _ => False) (fun _ => False) (fun _ => (0, 0)) w4 ∧ w4.heap[(cxOf B w2.heap.size l d L C nm).M]? = some (.map #[] 0) ∧ Below w2.heap.size w2 w4 ∧ w4.heap.size = w2.heap.size + 5 := by
  have e0 : w4.heap[w2.heap.size]? = some (.map #[] 0) := by rw [hw, blk_lt _ _ _ (by simp <;> omega), blk_lt _ _ _ (by simp <;> omega), blk_lt _ _ _ (by simp <;> omega), blk_lt _ _ _ (by simp <;> omega), blk_at _ _ _ (by simp)]
  have e1 : w4.heap[w2.heap.size + 1]? = some (.map #[] 0) := by rw [hw, blk_lt _ _ _ (by simp <;> omega), blk_lt _ _ _ (by simp <;> omega), blk_lt _ _ _ (by simp <;> omega), blk_at _ _ _ (by simp)]
  have e2 : w4.heap[w2.heap.size + 2]? = some (.map #[] 0) := by rw [hw, blk_lt _ _ _ (by simp <;> omega), blk_lt _ _ _ (by simp <;> omega), blk_at _ _ _ (by simp)]
  have e3 : w4.heap[w2.heap.size + 3]? = some (recObj w2.heap.size l d L C) := by rw [hw, blk_lt _ _ _ (by simp <;> omega), blk_at _ _ _ (by simp)]
  have e4 : w4.heap[w2.heap.size + 4]? = some (txnObj (w2.heap.size + 3) now) := by rw [hw, blk_at _ _ _ (by simp)]
  have hs : w4.heap.size = w2.heap.size + 5 := by rw [hw]; simp
  have hb : Below w2.heap.size w2 w4 := by
    rw [hw]
    exact (((((Below.refl _ _).alloc (Nat.le_refl _) _).alloc (by simp) _).alloc (by simp; omega) _).alloc (by simp; omega) _).alloc (by simp; omega) _
  have F9 : Go.WideElems.Fit (H := Unit) Tryd.prog 9 anyR #[] 0 := ⟨by simp, MapKept.stamped_empty 0, by simp⟩
  have F2 : Go.WideElems.Fit (H := Unit) Tryd.prog 2 anyR #[] 0 := ⟨by simp, MapKept.stamped_empty 0, by simp⟩
  refine ⟨⟨by show B ≤ _; omega, hn, by simp [cxOf], by simp [cxOf], by show B ≤ _; omega, by show B ≤ _ + 3; omega, hB, by show B ≤ _ + 1; omega, fun _ y => y.elim, fun _ y => y.elim, ?_, ?_, ⟨#[], 0, e0, F9, by simp, by simp⟩, ⟨#[], 0, e1, F9, by simp, by simp⟩, ⟨#[], 0, e2, F2, by simp⟩, fun _ y => y.elim, fun _ y => y.elim⟩, e0, hb, hs⟩
  · exact ⟨_, 0, [], _, _, _, _, _, _, _, _, _, _, e4, World.ownsRow_nil _ _ _ _, Nat.le_refl _⟩
  · have : IntKind.u64.wrap (C + (L - L)) = C := by rw [IntKind.wrap_u64]; omega
    show w4.heap[w2.heap.size + 3]? = _
    rw [e3]
    show some (recObj _ _ _ _ _) = some (.cells #[_, _, _, _, _, _, _, _, _, _, .int .u64 (IntKind.u64.wrap (C + (L - L)))] _ _)
    rw [this]
    rfl

/-- A second txn over the same records: the state stands under it. -/
theorem second_inv {K : Cx} {X : Tx} {G : Nat → Prop} {ge L : Int} {N : Nat} {q : Bool} {w w6 : World} (h : Inv K X G ge L N q w) (hone : ∀ b, X.mems b → b = X.cur) (now : Int) (hw : w6 = w.alloc (txnObj K.c now)) :
    Inv K ⟨w.heap.size, now, X.cur, X.mems, X.E⟩ G 0 L N q w6 := by
  have hb : Below w.heap.size w w6 := by rw [hw]; exact (Below.refl _ _).alloc (Nat.le_refl _) _
  have i6 := h.below hb
  have e4 : w6.heap[w.heap.size]? = some (txnObj K.c now) := by rw [hw]; exact Go.Deep.blk_alloc_new _ _
  refine ⟨i6.base, i6.nm, i6.ne, h.base, i6.basec, i6.baseM, i6.baseR, i6.basem, i6.baseG, ⟨_, 0, [], _, _, _, _, _, _, _, _, _, _, e4, World.ownsRow_nil _ _ _ _, Nat.zero_le _⟩, i6.rec_, i6.mapM, i6.mapR, i6.curIn, fun m hm => ?_, i6.rol⟩
  obtain ⟨ch, a, n, cp, sb, S, ut, jd, en, h1, h2, h3, h4⟩ := i6.mem m hm
  exact ⟨ch, a, n, cp, sb, S, ut, jd, en, h1, h2, Or.inl (hone m hm), h4⟩
end Go.Proofs.Qxb6615073aDoor
