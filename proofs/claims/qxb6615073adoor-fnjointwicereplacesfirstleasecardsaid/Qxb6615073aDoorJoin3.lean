import Derived.Test.Qxb6615073aDoorJoin2
namespace Go.Proofs.Qxb6615073aDoor
open Go.RowKit

/-- Behind the second join: the lease m1 is among the replaced ones. -/
def Join2Post (K : Cx) (X : Tx) (G : Nat → Prop) (L : Int) (n : Nat) (w : World) (e : Ending) (w' : World) : Prop :=
  e = .returned (.tuple #[]) ∧ ∃ m G' L' N', Inv K (TxOf X.T X.now L X.mems X.E m) G' (L + 1) L' N' true w' ∧ RepAt K (X.E X.cur).1 w' ∧ Fr K.B (fun b => JY K X.T X.mems G b ∨ b = K.P) w w' ∧ L + 1 ≤ L' ∧ L' ≤ L + 1 + n

/-- The state ahead of the new lease, out of the state behind 'state(old)'. -/
theorem Inv.pre {K : Cx} {X : Tx} {G : Nat → Prop} {L : Int} {N : Nat} {q : Bool} {w : World} (h : Inv K X G 0 L N q w) (hone : ∀ b, X.mems b → b = X.cur) (hP : K.P ≠ K.M ∧ K.P ≠ K.R) (hr : RepAny K w)
    (hold : ∃ ch a n cp sb S ut jd en, MemRec X.cur K.nm (X.E X.cur).1 (X.E X.cur).2 0 false ch (.slice a n cp) ut jd en w ∧ StrsRow w a sb n S ∧ (stateOf K.l K.d (X.E X.cur).2 0 X.now = 2 → jd = true)) : Pre K X.T X.now L N X.mems G X.E w :=
  ⟨h.base, h.nm, h.ne, hP, h.baseT, h.basec, h.baseM, h.baseR, h.basem, h.baseG, h.txn, h.rec_, h.mapM.any, h.mapR, hr, fun m hm => by
    obtain rfl := hone m hm
    exact hold, h.rol⟩

set_option maxRecDepth 100000 in
set_option maxHeartbeats 8000000 in
theorem join2_any {K : Cx} {T m1 : Nat} {now : Int} {mems : Nat → Prop} {E : Nat → Int × Int} {G : Nat → Prop} {L : Int} {N : Nat} {q : Bool} {w : World} (h : Inv K ⟨T, now, m1, mems, E⟩ G 0 L N q w) (hone : ∀ b, mems b → b = m1) (hP : K.P ≠ K.M ∧ K.P ≠ K.R) (hr : RepAny K w)
    {a : Option Addr} {n cp sb : Nat} {S : Nat → ByteArray} (hS : StrsRow w a sb n S) (hL : -9223372036854775808 ≤ L ∧ L + 100000 < 9223372036854775807) (hN : N < 200000) (hE : (Lit.int .i64 (E m1).1).wf = true) :
    Calls Tryd.prog 20 #[.agg #[.string K.nm, .slice a n cp], ptr T] w (Join2Post K ⟨T, now, m1, mems, E⟩ G L n w) := by
  have H : Hid (Inv K ⟨T, now, m1, mems, E⟩ G 0 L N q w) := h
  have HS : Hid (StrsRow w a sb n S) := hS
  have HR : Hid (RepAny K w) := hr
  have HO : Hid (∀ b, mems b → b = m1) := hone
  have HE : Hid ((Lit.int .i64 (E m1).1).wf = true) := hE
  have hn3 : n ≤ 32768 := hS.2.2
  clear h hS hr hone hE
  unfold ptr
  go_enter Tryd.func20, Tryd.ntmps20
  go_upto_region 1 with fail
  obtain ⟨W, hW⟩ : ∃ W, W = w.alloc (joinObj K.nm (.slice a n cp)) := ⟨_, rfl⟩
  rw [show w.alloc (.cells #[.string K.nm, .slice a n cp] 69) = W from hW.symm]
  have bW : Below w.heap.size w W := by rw [hW]; exact (Below.refl _ _).alloc (Nat.le_refl _) _
  have jW : W.heap[w.heap.size]? = some (joinObj K.nm (.slice a n cp)) := by rw [hW]; exact Go.Deep.blk_alloc_new _ _
  have PW : Hid (Inv K ⟨T, now, m1, mems, E⟩ G 0 L N q W) := H.out.below bW
  have t0 : W.cell? ⟨T, 0, none⟩ = some (.pointer (some ⟨K.c, 0, none⟩)) := PW.out.txn.c0
  have c6 := PW.out.rec_.c6
  have j0 : W.cell? ⟨w.heap.size, 0, none⟩ = some (.string K.nm) := by rw [cell_of jW]; rfl
  have lk : ∀ n, (Instr.lookup 49 (.map (some K.M)) (.string K.nm) true).run Tryd.prog (W.drewN n) = .ok (.tuple #[.pointer (some ⟨m1, 0, none⟩), .bool true]) (W.drewN n) := fun n => MembersAt.look (w := W.drewN n) PW.out.mapM H.out.nm true
  have HW : Hid (Below w.heap.size w W ∧ W.heap[w.heap.size]? = some (joinObj K.nm (.slice a n cp))) := ⟨bW, jW⟩
  clear hW bW jW
  go_quiet (fail)
  go_wp2_with fail
  refine (state_inv (w := W.drewN nq) (PW.out.drewN nq) PW.out.curIn (by omega)).mono ?_
  rintro e w1 ⟨st, rfl, i1, f1, hold⟩
  obtain ⟨ch1, a1, n1, cp1, sb1, S1, ut1, jd1, en1, mr1, _⟩ := id hold
  have p7 : w1.cell? ⟨m1, 7, none⟩ = some (.slice none 0 0) := by rw [cell_of mr1]; rfl
  have I1 : Hid (Inv K ⟨T, now, m1, mems, E⟩ G 0 L (N + 1) q w1) := i1
  have F1 : Hid (Fr K.B (fun b => b = T ∨ b = m1) W w1) := ⟨f1.os, f1.tape, f1.output, f1.size, f1.block⟩
  have TM : Hid (¬ (K.P = T ∨ K.P = m1)) := by
    obtain ⟨es, ck, e, _⟩ := HR.out
    rintro (y | y)
    · obtain ⟨cs, e2⟩ := H.out.txn.blk
      rw [y, show w.heap[T]? = _ from e2] at e
      simp at e
    · obtain ⟨cs, e2⟩ := (H.out.mem m1 H.out.curIn).blk
      rw [y, e2] at e
      simp at e
  have R1 : Hid (RepAny K w1) := rep_kept (w := W) (HR.out.kept (HW.out.1.block _ (by obtain ⟨es, ck, e, _⟩ := HR.out; exact lt_of_heap e))) F1.out (fun _ _ _ => TM.out)
  have PV : Hid (Pre K T now L (N + 1) mems G E w1) := I1.out.pre HO.out hP R1.out (by obtain ⟨ch, a, n, cp, sb, S, ut, jd, en, x1, x2, x3, _⟩ := hold; exact ⟨ch, a, n, cp, sb, S, ut, jd, en, x1, x2, x3⟩)
  have jne : w.heap.size ≠ T ∧ w.heap.size ≠ m1 ∧ w.heap.size ≠ K.c := by
    obtain ⟨cs, e2⟩ := H.out.txn.blk
    obtain ⟨cs', e3⟩ := (H.out.mem m1 H.out.curIn).blk
    have x1 := lt_of_heap e2
    have x2 := lt_of_heap e3
    have x3 := lt_of_heap H.out.rec_
    simp only at x1
    exact ⟨by omega, by omega, by omega⟩
  have JV : Hid (w1.heap[w.heap.size]? = some (joinObj K.nm (.slice a n cp)) ∧ w.heap.size ≠ K.c) := ⟨F1.out.keeps HW.out.2 (fun y => y.elim jne.1 jne.2.1) (by decide), jne.2.2⟩
  have TC : Hid (T ≠ K.c) := by obtain ⟨cs, e⟩ := H.out.txn.blk; exact ne_of_types e H.out.rec_ (by decide)
  have SV : Hid (StrsRow w1 a sb n S) := (HS.out.kept (w' := W) (fun b cs hb => HW.out.1.block b (lt_of_heap hb))).kept (fun b cs hb => (F1.out.keeps hb (fun y => by
    obtain ⟨cs1, e1⟩ := PW.out.txn.blk
    obtain ⟨cs2, e2⟩ := (PW.out.mem m1 PW.out.curIn).blk
    rcases y with y | y
    · exact ne_of_types hb e1 (by decide) y
    · exact ne_of_types hb e2 (by decide) y) (by decide)).trans hb.symm)
  have FV : Hid (Fr K.B (JY K T mems G) w w1) := (Fr.of_below HW.out.1).trans F1.out (fun _ y => y) (fun b _ y => y.elim Or.inl (fun y => Or.inr (Or.inr (Or.inr (Or.inr (Or.inl (y ▸ H.out.curIn)))))))
  clear t0 c6 j0 lk i1 f1 hold mr1 jne
  go_wp2_with fail
  refine (over_any st w1).mono ?_
  rintro e w1' ⟨rfl, hw1⟩
  rw [hw1]
  clear hw1 w1'
  generalize (st == 2 || st == 3) = ov
  cases ov
  all_goals
    go_upto_region 4 with fail
    go_wp2_with fail
    refine (next_any K T now 0 L (N + 1) _ PV.out.txn PV.out.rec_ (by omega)).mono ?_
    rintro e w2 ⟨rfl, hR2, hs2, hf2, hk2⟩
    generalize hC : IntKind.u64.wrap (K.C0 + (L + 1 - K.L0)) = C at *
    have q0 : w2.cell? ⟨w.heap.size, 0, none⟩ = some (.string K.nm) := cell_same (hk2 _ JV.out.2) (by rw [cell_of JV.out.1]; rfl)
    have q1 : w2.cell? ⟨w.heap.size, 1, none⟩ = some (.slice a n cp) := cell_same (hk2 _ JV.out.2) (by rw [cell_of JV.out.1]; rfl)
    have u1 : w2.cell? ⟨T, 1, none⟩ = some (.int .i64 now) := cell_same (hk2 _ TC.out) PV.out.txn.c1
    have u0 : w2.cell? ⟨T, 0, none⟩ = some (.pointer (some ⟨K.c, 0, none⟩)) := cell_same (hk2 _ TC.out) PV.out.txn.c0
    have d6 := hR2.c6
    have HR2 : Hid (RecAt K (L + 1) w2 ∧ (∀ b, b ≠ K.c → w2.heap[b]? = w1.heap[b]?) ∧ w2.heap.size = w1.heap.size ∧ Fr K.B (· = K.c) w1 w2) := ⟨hR2, hk2, hs2, hf2⟩
    clear hR2 hk2 hs2 hf2 hC
    go_upto_region 5 with fail
    refine wp_region_quiet_tail 12 (by kernel_rfl) (by kernel_rfl) ?_
    simp only [List.take_succ_cons, List.take_zero, List.drop_succ_cons, List.drop_zero]
    repeat (go_big_quiet_step (fail))
    refine wpQuiet_nil ?_
    go_upto_region 6 with fail
    obtain ⟨Z, hZ⟩ : ∃ Z, Z = w2.alloc (memObj K.nm (L + 1) now C (.slice a n cp)) := ⟨_, rfl⟩
    rw [show w2.alloc (.cells #[.string K.nm, .int .i64 (L + 1), .int .i64 now, .int .i64 0, .bool false, .int .u64 C, .slice a n cp, .slice none 0 0, .bool false, .bool false, .int .i64 0] 77) = Z from hZ.symm]
    have bZ : Below w2.heap.size w2 Z := by rw [hZ]; exact (Below.refl _ _).alloc (Nat.le_refl _) _
    have p0 : Z.cell? ⟨w.heap.size, 0, none⟩ = some (.string K.nm) := cell_same (bZ.block _ (lt_of_cell q0)) q0
    have v0 : Z.cell? ⟨T, 0, none⟩ = some (.pointer (some ⟨K.c, 0, none⟩)) := cell_same (bZ.block _ (lt_of_cell u0)) u0
    have e6 : Z.cell? ⟨K.c, 6, none⟩ = some (.map (some K.M)) := cell_same (bZ.block _ (lt_of_cell d6)) d6
    obtain ⟨w4, hrun, i4, hm4, hS4, hP4, ho4⟩ := PV.out.install HR2.out.1 HR2.out.2.1 HR2.out.2.2.1 SV.out (Z := Z.drew.drew) (by rw [hZ]; rfl)
    have J4 : Hid (JS K (TxOf T now L mems E w2.heap.size) G 0 (L + 1) (N + 1) true mems G w w4) := by
      refine ⟨i4, hP4, ((FV.out.trans HR2.out.2.2.2 (fun _ y => y) (fun b _ y => Or.inr (Or.inl y))).trans (Fr.of_below (Y := fun _ => False) bZ) (fun _ y => y) (fun _ _ y => y.elim)).trans (Y2 := (· = K.M)) ?_ (fun _ y => y) (fun b _ y => Or.inr (Or.inr (Or.inl y)))⟩
      have := ho4.fr (B := K.B)
      exact ⟨this.os, this.tape, this.output, this.size, this.block⟩
    have HM4 : Hid (MemRec w2.heap.size K.nm (L + 1) now 0 false C (.slice a n cp) false false 0 w4 ∧ StrsRow w4 a sb n S) := ⟨hm4, hS4⟩
    clear hZ bZ i4 hm4 hS4 hP4 ho4 q0 q1 u0 u1 d6
    refine wp_region_quiet_tail 10 (by kernel_rfl) (by kernel_rfl) ?_
    simp only [List.take_succ_cons, List.take_zero, List.drop_succ_cons, List.drop_zero]
    repeat (go_big_quiet_step (fail))
    refine wpQuiet_nil ?_
    go_wp2_with fail
    refine (watch_any K T w2.heap.size now 0 (L + 1) (L + 1) now 0 false K.nm C _ false false 0 (N + 1) w4 J4.out.1.txn J4.out.1.rec_ HM4.out.1 J4.out.1.base (by omega)).mono ?_
    rintro e w5 ⟨rfl, hT5, hf5⟩
    have HM5 : Hid (MemRec w2.heap.size K.nm (L + 1) now 0 false C (.slice a n cp) false false 0 w5) := (kept_emit (L := L + 1) J4.out.1.txn hf5).2.2 _ _ _ _ _ _ _ _ _ _ _ HM4.out.1
    have HS5 : Hid (StrsRow w5 a sb n S) := strs_emit J4.out.1.txn hf5 HM4.out.2
    have J5 : Hid (JS K (TxOf T now L mems E w2.heap.size) G 0 (L + 1) ((N + 1) + 1) true mems G w w5) := J4.out.emitted hT5 hf5
    have o0 : w5.cell? ⟨w2.heap.size, 0, none⟩ = some (.string K.nm) := by rw [cell_of HM5.out]; rfl
    clear hT5 hf5 p0 v0 e6 hrun
    go_wp2_with fail
    refine (emit_any K T now 0 ((N + 1) + 1) w5 _ _ J5.out.1.txn J5.out.1.base (by omega)).mono ?_
    rintro e w6 ⟨rfl, hT6, hf6⟩
    have HM6 : Hid (MemRec w2.heap.size K.nm (L + 1) now 0 false C (.slice a n cp) false false 0 w6) := (kept_emit (L := L + 1) J5.out.1.txn hf6).2.2 _ _ _ _ _ _ _ _ _ _ _ HM5.out
    have HS6 : Hid (StrsRow w6 a sb n S) := strs_emit J5.out.1.txn hf6 HS5.out
    have J6 : Hid (JS K (TxOf T now L mems E w2.heap.size) G 0 (L + 1) ((N + 1) + 1 + 1) true mems G w w6) := J5.out.emitted hT6 hf6
    clear hT6 hf6 o0
    go_wp2_with fail
    refine (answer_any J6.out.1 (show w6.cell? ⟨w2.heap.size, 6, none⟩ = some (.slice a n cp) from by rw [cell_of HM6.out]; rfl) HS6.out (by omega) (by omega)).mono ?_
    rintro e w7 ⟨ms, gR, gH, ca, L', G', rfl, l1, l2, s1, s2, i7, f7⟩
    have J7 : Hid (JS K (TxOf T now L mems E w2.heap.size) G' 0 L' ((N + 1) + 1 + 1 + 6 * n) true mems G w w7) := J6.out.answered i7 f7 (fun b hb y => y.elim id (fun e => by have h1 := HR2.out.2.2.1; have h2 := FV.out.size; have h3 : b = w2.heap.size := e; omega)) (fun _ _ y => y) hP.2
    obtain ⟨tc, tf⟩ := i7.txnCells
    clear i7 f7
    obtain ⟨y4, k4⟩ := tc 4 (by decide)
    obtain ⟨y5, k5⟩ := tc 5 (by decide)
    obtain ⟨y6, k6⟩ := tc 6 (by decide)
    obtain ⟨y7, k7⟩ := tc 7 (by decide)
    obtain ⟨y8, k8⟩ := tc 8 (by decide)
    obtain ⟨y9, k9⟩ := tc 9 (by decide)
    obtain ⟨y10, k10⟩ := tc 10 (by decide)
    have t4 := tf 4
    have t5 := tf 5
    have t6 := tf 6
    have t7 := tf 7
    have t8 := tf 8
    have t9 := tf 9
    have t10 := tf 10
    clear tc tf
    unfold grantVal
    have eE : ((TxOf T now L mems E w2.heap.size).E (TxOf T now L mems E w2.heap.size).cur).1 = L + 1 := by simp [TxOf]
    rw [eE]
    simp only [TxOf] at k4 k5 k6 k7 k8 k9 k10 t4 t5 t6 t7 t8 t9 t10
    go_upto_region 10 with fail
    obtain ⟨i8, o8⟩ := J7.out.1.setRes K.nm (L + 1) ms (.map gR) (.map gH) ca
    obtain ⟨Y, hY⟩ : ∃ Y, Y = setRes w7 T K.nm (L + 1) ms (.map gR) (.map gH) ca := ⟨_, rfl⟩
    rw [show ((((((w7.setCell ⟨T, 4, none⟩ (.string K.nm)).setCell ⟨T, 5, none⟩ (.int .i64 (L + 1))).setCell ⟨T, 6, none⟩ (.int .i64 ms)).setCell ⟨T, 7, none⟩ (.map gR)).setCell ⟨T, 8, none⟩ (.map gH)).setCell ⟨T, 9, none⟩ (.string { data := #[] })).setCell ⟨T, 10, none⟩ (.int .u64 ca) = Y from hY.symm]
    have J8 : Hid (JS K (TxOf T now L mems E w2.heap.size) G' (L + 1) L' (N + 1 + 1 + 1 + 6 * n) true mems G w Y) := by
      rw [hY]
      exact ⟨i8, rep_kept J7.out.2.1 (o8.fr (B := K.B)) (fun es ck e y => by obtain ⟨cs, e2⟩ := J7.out.1.txn.blk; rw [y, e2] at e; simp at e), J7.out.2.2.trans (o8.fr (B := K.B)) (fun _ y => y) (fun b _ y => Or.inl y)⟩
    have NE : Hid (m1 ≠ w2.heap.size) := fun e => by
      obtain ⟨cs, e2⟩ := (H.out.mem m1 H.out.curIn).blk
      have x1 := lt_of_heap e2
      have x2 := HR2.out.2.2.1
      have x3 := FV.out.size
      omega
    have hm1 : (TxOf T now L mems E w2.heap.size).mems m1 := Or.inl H.out.curIn
    have eE1 : ((TxOf T now L mems E w2.heap.size).E m1).1 = (E m1).1 := by simp [TxOf, NE.out]
    obtain ⟨ch8, a8, n8, cp8, ut8, x0, x1, x5, x6, x8, z8⟩ := J8.out.1.memCells hm1
    rw [eE1] at x1
    have u0 : Y.cell? ⟨T, 0, none⟩ = some (.pointer (some ⟨K.c, 0, none⟩)) := J8.out.1.txn.c0
    have d8 := J8.out.1.rec_.c8
    obtain ⟨w9, r9, p9, o9⟩ := RepAny.store (w := Y.drew) J8.out.2.1 HE.out (.pointer (some ⟨m1, 0, none⟩))
    clear i8 o8 hY k4 k5 k6 k7 k8 k9 k10 t4 t5 t6 t7 t8 t9 t10 x0 x5 x6 x8 z8
    go_upto_region 11 with fail
    refine wp_region_quiet_tail 13 (by kernel_rfl) (by kernel_rfl) ?_
    simp only [List.take_succ_cons, List.take_zero, List.drop_succ_cons, List.drop_zero]
    repeat (go_big_quiet_step (fail))
    refine wpQuiet_nil ?_
    go_upto_region 12 with fail
    have PM : Hid (∃ es ck, Y.heap[K.P]? = some (.map es ck)) := by obtain ⟨es, ck, e, _⟩ := J8.out.2.1; exact ⟨es, ck, e⟩
    have I9 : Hid (Inv K (TxOf T now L mems E w2.heap.size) G' (L + 1) L' (N + 1 + 1 + 1 + 6 * n) true w9) := ownStore (w := Y.drew) J8.out.1.drew hP.1 hP.2 PM.out o9.size o9.block
    have Q9 : Hid (RepAt K (E m1).1 w9) := p9
    have F9 : Hid (Fr K.B (fun b => JY K T mems G b ∨ b = K.P) w w9) := (J8.out.2.2.mono (fun _ y => Or.inl y)).trans (Fr.undrew (o9.fr (B := K.B))) (fun _ y => y) (fun b _ y => Or.inr y)
    clear r9 p9 o9 u0 d8 x1
    obtain ⟨ch9, a9, n9, cp9, ut9, x0, x1, x5, x6, x8, z8⟩ := I9.out.memCells hm1
    clear x0 x5 x6 x8 z8
    go_wp2_with fail
    refine (emit_any K T now (L + 1) (N + 1 + 1 + 1 + 6 * n) w9 _ _ I9.out.txn I9.out.base (by omega)).mono ?_
    rintro e w10 ⟨rfl, hT10, hf10⟩
    have I10 : Hid (Inv K (TxOf T now L mems E w2.heap.size) G' (L + 1) L' (N + 1 + 1 + 1 + 6 * n + 1) true w10) := I9.out.emitted hT10 hf10
    have NT : Hid (K.P ≠ T ∧ ¬ (Touch K (TxOf T now L mems E w2.heap.size) G' K.P ∨ K.P = K.R)) := by
      obtain ⟨es, ck, e, _⟩ := Q9.out
      have := I9.out.not_touch_map e
      exact ⟨fun y => this (Or.inl y), fun y => y.elim this hP.2⟩
    have Q10 : Hid (RepAt K (E m1).1 w10) := by
      obtain ⟨es, ck, e, h2⟩ := Q9.out
      exact ⟨es, ck, hf10.keepsMap e NT.out.1, h2⟩
    have F10 : Hid (Fr K.B (fun b => JY K T mems G b ∨ b = K.P) w w10) := F9.out.trans hf10 (fun _ y => y) (fun b _ y => Or.inl (Or.inl y))
    clear hT10 hf10 x1
    obtain ⟨chA, aA, nA, cpA, sbA, SA, utA, jdA, enA, mA, sA, _, _⟩ := I10.out.mem m1 hm1
    have x6 : w10.cell? ⟨m1, 6, none⟩ = some (.slice aA nA cpA) := by rw [cell_of mA]; rfl
    have SS : Hid (StrsRow w10 aA sbA nA SA) := sA
    clear mA sA
    go_wp2_with fail
    refine (prune_any I10.out SS.out (by omega)).mono ?_
    rintro e w11 ⟨rfl, i11, f11⟩
    have Q11 : Hid (RepAt K (E m1).1 w11) := by
      obtain ⟨es, ck, e, h2⟩ := Q10.out
      exact ⟨es, ck, f11.keepsMap e NT.out.2, h2⟩
    have F11 : Hid (Fr K.B (fun b => JY K T mems G b ∨ b = K.P) w w11) := F10.out.trans f11 (fun _ y => y) (fun b hb y => by
      rcases y with (y | y | y | y) | y
      · exact Or.inl (Or.inl y)
      · exact Or.inl (Or.inr (Or.inl y))
      · rcases y with y | y
        · exact Or.inl (Or.inr (Or.inr (Or.inr (Or.inr (Or.inl y)))))
        · have h1 := HR2.out.2.2.1
          have h2 := FV.out.size
          omega
      · rcases s2 b y with y | y
        · exact Or.inl (Or.inr (Or.inr (Or.inr (Or.inr (Or.inr y)))))
        · have h1 := J6.out.2.2.size
          omega
      · exact Or.inl (Or.inr (Or.inr (Or.inr (Or.inl y)))))
    go_wp2
    go_end0
    exact ⟨rfl, w2.heap.size, G', L', _, i11, Q11.out, F11.out, by omega, by omega⟩
end Go.Proofs.Qxb6615073aDoor
