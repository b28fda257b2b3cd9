import Derived.Test.Qxb6615073aDoorInv
import Derived.Maps.AppendAt
namespace Go.Proofs.Qxb6615073aDoor
open Go.RowKit
theorem Tryd.info103 : (Tryd.prog.info? 103).map (fun i => (i.zero, i.size, i.bytes)) = some (some .nilIface, 1, 16) := by kernel_rfl

def EmitPost (K : Cx) (T : Nat) (now ge : Int) (N : Nat) (w : World) (e : Ending) (w' : World) : Prop :=
  e = .returned (.tuple #[]) ∧ TxnAt K T now ge (N + 1) w' ∧ Fr K.B (· = T) w w'

/-- The row of events is of another type than the txn's block: it is not the txn. -/
theorem own_ne {w : World} {B T n : Nat} {v : Value} {xs : List Value} {cs : Array Value} {t : TypeId} {f : Nat × Nat} (hown : w.ownsRow B 103 1 v n xs) (hb : w.heap[T]? = some (.cells cs t f)) (ht : t ≠ 103) : some T ≠ v.ownBlock := by
  rcases hown.2 with ⟨rfl, _⟩ | ⟨g, cap, cur, rfl, _, hg, _⟩
  · simp [Value.ownBlock]
  · intro e
    simp [Value.ownBlock] at e
    subst e
    rw [hg] at hb
    simp at hb
    exact ht hb.2.1.symm

/-- Behind an append to a row of events: nothing else has turned. -/
theorem fr_grown {w w1 : World} {B n : Nat} {Y : Nat → Prop} {v : Value} {xs : List Value} (hown : w.ownsRow B 103 1 v n xs) (hg : w.grownBy w1 v.ownBlock) : Fr B Y w w1 :=
  ⟨hg.os, hg.tape, hg.output, hg.size, fun b hb _ h7 => hg.block b hb (fun e => by
    rcases hown.2 with ⟨rfl, _⟩ | ⟨g, cap, cur, rfl, hge, hgg, _⟩
    · simp [Value.ownBlock] at e
    · simp [Value.ownBlock] at e
      subst e
      rcases h7 with h7 | h7
      · omega
      · exact h7 _ _ hgg)⟩

/-- What an append leaves of the txn and of the frame, once the slice is stored back. -/
theorem emit_close {K : Cx} {T : Nat} {now ge : Int} {N : Nat} {w w1 : World} {ev : Value} {g cap : Nat} {v : Value} {n : Nat} {xs : List Value} {gm gl gr gh gk ca x11 x12 x13 x14 : Value} {o : Obj}
    (hb : w.heap[T]? = some (.cells #[ptr K.c, .int .i64 now, v, .nilIface, gm, .int .i64 ge, gl, gr, gh, gk, ca, x11, x12, x13, x14] 67 (0, 0))) (hown : w.ownsRow K.B 103 1 v n xs) (hn : n ≤ N)
    (hown' : w1.ownsRow K.B 103 1 (.slice (some ⟨g, 0, none⟩) (n + 1) cap) (n + 1) (xs ++ [ev])) (hgrow : (w.alloc o).grownBy w1 v.ownBlock) :
    w1.cell? ⟨T, 2, none⟩ = some v ∧ w1.frozen? ⟨T, 2, none⟩ = false ∧
      TxnAt K T now ge (N + 1) (w1.setCell ⟨T, 2, none⟩ (.slice (some ⟨g, 0, none⟩) (n + 1) cap)) ∧ Fr K.B (· = T) w (w1.setCell ⟨T, 2, none⟩ (.slice (some ⟨g, 0, none⟩) (n + 1) cap)) := by
  have hne := own_ne hown hb (by decide)
  have hTlt : T < w.heap.size := (Array.getElem?_eq_some_iff.1 hb).1
  have hb1 : w1.heap[T]? = some (.cells #[ptr K.c, .int .i64 now, v, .nilIface, gm, .int .i64 ge, gl, gr, gh, gk, ca, x11, x12, x13, x14] 67 (0, 0)) := by
    rw [hgrow.block T (by simp; omega) hne, Go.Deep.blk_alloc_lt _ _ _ hTlt]
    exact hb
  refine ⟨by rw [cell_of hb1]; rfl, frozen_of hb1 2, ?_, ?_⟩
  · refine ⟨_, n + 1, xs ++ [ev], gm, gl, gr, gh, gk, ca, x11, x12, x13, x14, heap_set hb1 2 _, ?_, by omega⟩
    refine ⟨hown'.1, ?_⟩
    rcases hown'.2 with ⟨h, _⟩ | ⟨g', cap', cur, h1, h2, h3, h4⟩
    · cases h
    · refine Or.inr ⟨g', cap', cur, h1, h2, ?_, h4⟩
      rw [Go.Deep.blk_setCell_other _ _ _ _ (fun e => by simp only at e; rw [e, hb1] at h3; simp at h3)]
      exact h3
  · exact ((Fr.refl K.B _ w).alloc o |>.trans (fr_grown (Y := (· = T)) (hown.alloc o) hgrow) (fun _ q => q) (fun _ _ q => q)).setCell (Or.inl rfl) _

set_option maxRecDepth 100000 in
set_option maxHeartbeats 400000 in
theorem emit_any (K : Cx) (T : Nat) (now ge : Int) (N : Nat) (w : World) (t : TypeId) (x : Value) (hT : TxnAt K T now ge N w) (hB : K.B ≤ w.heap.size) (hN : N < 1000000000) :
    Calls Tryd.prog 26 #[ptr T, .iface t x] w (EmitPost K T now ge N w) := by
  obtain ⟨i0, hi, hz0, hz1, hz2⟩ := info_parts Tryd.info103
  obtain ⟨v, n, xs, gm, gl, gr, gh, gk, ca, x11, x12, x13, x14, hb, hown, hn⟩ := hT
  have c2 : w.cell? ⟨T, 2, none⟩ = some v := by rw [cell_of hb]; rfl
  have Hb : Hid (w.heap[T]? = _) := hb
  clear hb
  unfold ptr
  go_enter Tryd.func26, Tryd.ntmps26
  go_wp2_with (at_builtin; go_must (refine wpList_append_lies _ rfl _ _ 56 rfl K.B 103 i0 .nilIface 1 16 Tryd.underlying56 hi hz0 hz1 hz2 rfl (by decide) _ _ _ rfl (hown.alloc _) ⟨w.heap.size, 0, none⟩ 1 1 [.iface t x] rfl rfl (cell_one_new _ _ _) (by intro u hu; simp at hu; subst hu; rfl) (by omega) (by unfold maxLen; omega) (by omega) (by simp; omega) (w.heap.size + 1) (by simp) ?_); intro g cap w1 hown' hgrow _ hlt; obtain ⟨d2, f2, D1, D2⟩ := emit_close Hb.out hown hn hown' hgrow)
  go_end0
  exact ⟨rfl, D1, D2⟩

theorem lt_of_cell {w : World} {b i : Nat} {v : Value} (h : w.cell? ⟨b, i, none⟩ = some v) : b < w.heap.size := by
  unfold World.cell? at h
  split at h
  · rename_i hb
    exact (Array.getElem?_eq_some_iff.1 hb).1
  · cases h

section
variable {K : Cx} {T : Nat} {now ge : Int} {N : Nat} {w : World} {L : Int}
theorem TxnAt.c0 (h : TxnAt K T now ge N w) : w.cell? ⟨T, 0, none⟩ = some (ptr K.c) := by
  obtain ⟨v, n, xs, gm, gl, gr, gh, gk, ca, x11, x12, x13, x14, hb, _⟩ := h
  rw [cell_of hb]; rfl
theorem TxnAt.c1 (h : TxnAt K T now ge N w) : w.cell? ⟨T, 1, none⟩ = some (.int .i64 now) := by
  obtain ⟨v, n, xs, gm, gl, gr, gh, gk, ca, x11, x12, x13, x14, hb, _⟩ := h
  rw [cell_of hb]; rfl
theorem TxnAt.mono (h : TxnAt K T now ge N w) {N' : Nat} (hN : N ≤ N') : TxnAt K T now ge N' w := by
  obtain ⟨v, n, xs, gm, gl, gr, gh, gk, ca, x11, x12, x13, x14, hb, ho, hn⟩ := h
  exact ⟨v, n, xs, gm, gl, gr, gh, gk, ca, x11, x12, x13, x14, hb, ho, by omega⟩
theorem TxnAt.lt (h : TxnAt K T now ge N w) : T < w.heap.size := lt_of_cell h.c0
/-- The txn stays while its block and the rows of events stay. -/
theorem TxnAt.kept (h : TxnAt K T now ge N w) {w' : World} (hb : ∀ b, b < w.heap.size → (b = T ∨ ∃ cs, w.heap[b]? = some (.cells cs 103 (0, 0))) → w'.heap[b]? = w.heap[b]?) : TxnAt K T now ge N w' := by
  have hlt := h.lt
  obtain ⟨v, n, xs, gm, gl, gr, gh, gk, ca, x11, x12, x13, x14, h0, ho, hn⟩ := h
  refine ⟨v, n, xs, gm, gl, gr, gh, gk, ca, x11, x12, x13, x14, (hb T hlt (Or.inl rfl)).trans h0, ⟨ho.1, ?_⟩, hn⟩
  rcases ho.2 with h2 | ⟨g, cap, cur, h1, h2, h3, h4⟩
  · exact Or.inl h2
  · exact Or.inr ⟨g, cap, cur, h1, h2, (hb g (Array.getElem?_eq_some_iff.1 h3).1 (Or.inr ⟨_, h3⟩)).trans h3, h4⟩
theorem TxnAt.below (h : TxnAt K T now ge N w) {w' : World} (hb : Below w.heap.size w w') : TxnAt K T now ge N w' := h.kept (fun b hlt _ => hb.block b hlt)
theorem RecAt.c0 (h : RecAt K L w) : w.cell? ⟨K.c, 0, none⟩ = some (.int .i64 K.l) := by rw [cell_of h]; rfl
theorem RecAt.c1 (h : RecAt K L w) : w.cell? ⟨K.c, 1, none⟩ = some (.int .i64 K.d) := by rw [cell_of h]; rfl
theorem RecAt.c6 (h : RecAt K L w) : w.cell? ⟨K.c, 6, none⟩ = some (.map (some K.M)) := by rw [cell_of h]; rfl
theorem RecAt.c7 (h : RecAt K L w) : w.cell? ⟨K.c, 7, none⟩ = some (.map (some K.R)) := by rw [cell_of h]; rfl
theorem RecAt.c8 (h : RecAt K L w) : w.cell? ⟨K.c, 8, none⟩ = some (.map (some K.P)) := by rw [cell_of h]; rfl
theorem RecAt.c9 (h : RecAt K L w) : w.cell? ⟨K.c, 9, none⟩ = some (.int .i64 L) := by rw [cell_of h]; rfl
theorem RecAt.c10 (h : RecAt K L w) : w.cell? ⟨K.c, 10, none⟩ = some (.int .u64 (IntKind.u64.wrap (K.C0 + (L - K.L0)))) := by rw [cell_of h]; rfl
end

theorem ne_of_types {w : World} {a b : Nat} {cs cs' : Array Value} {t t' : TypeId} {f f' : Nat × Nat} (ha : w.heap[a]? = some (.cells cs t f)) (hb : w.heap[b]? = some (.cells cs' t' f')) (h : t ≠ t') : a ≠ b := by
  rintro rfl
  rw [ha] at hb
  simp at hb
  exact h hb.2.1

set_option maxHeartbeats 400000 in
theorem next_walk (T c : Nat) (L C : Int) (w : World) (hL : -9223372036854775808 ≤ L ∧ L < 9223372036854775807) (_hTc : T ≠ c)
    (h0 : w.cell? ⟨T, 0, none⟩ = some (.pointer (some ⟨c, 0, none⟩))) (h9 : w.cell? ⟨c, 9, none⟩ = some (.int .i64 L)) (h10 : w.cell? ⟨c, 10, none⟩ = some (.int .u64 C))
    (f9 : w.frozen? ⟨c, 9, none⟩ = false) (f10 : w.frozen? ⟨c, 10, none⟩ = false) :
    Calls Tryd.prog 24 #[.pointer (some ⟨T, 0, none⟩)] w fun e w' => e = .returned (.tuple #[.int .i64 (L + 1), .int .u64 (IntKind.u64.wrap (C + 1))]) ∧ ∃ n, w' = ((w.setCell ⟨c, 9, none⟩ (.int .i64 (L + 1))).setCell ⟨c, 10, none⟩ (.int .u64 (IntKind.u64.wrap (C + 1)))).drewN n := by
  go_enter Tryd.func24, Tryd.ntmps24
  go_wp2
  go_quiet (fail)
  go_wp2
  go_ret2
  exact ⟨rfl, _, rfl⟩

theorem wrap_step (x : Int) : IntKind.u64.wrap (IntKind.u64.wrap x + 1) = IntKind.u64.wrap (x + 1) := by
  simp only [IntKind.wrap_u64]
  omega

def NextPost (K : Cx) (L : Int) (w : World) (e : Ending) (w' : World) : Prop :=
  e = .returned (.tuple #[.int .i64 (L + 1), .int .u64 (IntKind.u64.wrap (K.C0 + (L + 1 - K.L0)))]) ∧ RecAt K (L + 1) w' ∧ w'.heap.size = w.heap.size ∧ Fr K.B (· = K.c) w w' ∧ ∀ b, b ≠ K.c → w'.heap[b]? = w.heap[b]?

theorem next_any (K : Cx) (T : Nat) (now ge L : Int) (N : Nat) (w : World) (hT : TxnAt K T now ge N w) (hR : RecAt K L w) (hL : -9223372036854775808 ≤ L ∧ L < 9223372036854775807) :
    Calls Tryd.prog 24 #[ptr T] w (NextPost K L w) := by
  have hne : T ≠ K.c := by
    obtain ⟨v, n, xs, gm, gl, gr, gh, gk, ca, x11, x12, x13, x14, hb, _⟩ := hT
    exact ne_of_types hb hR (by decide)
  refine (next_walk T K.c L _ w hL hne hT.c0 hR.c9 hR.c10 (frozen_of hR 9) (frozen_of hR 10)).mono ?_
  rintro e w' ⟨rfl, n, rfl⟩
  have e1 : K.C0 + (L - K.L0) + 1 = K.C0 + (L + 1 - K.L0) := by omega
  rw [wrap_step, e1]
  refine ⟨rfl, ?_, by simp [World.setCell], ?_, fun b hb => ?_⟩
  · have h1 := heap_set (heap_set hR 9 (.int .i64 (L + 1))) 10 (.int .u64 (IntKind.u64.wrap (K.C0 + (L + 1 - K.L0))))
    exact h1
  · exact (((Fr.refl K.B (· = K.c) w).setCell (a := ⟨K.c, 9, none⟩) (Or.inl rfl) _).setCell (a := ⟨K.c, 10, none⟩) (Or.inl rfl) _).drewN n
  · show ((w.setCell _ _).setCell _ _).heap[b]? = _
    rw [Go.Deep.blk_setCell_other _ _ _ _ hb, Go.Deep.blk_setCell_other _ _ _ _ hb]
end Go.Proofs.Qxb6615073aDoor
