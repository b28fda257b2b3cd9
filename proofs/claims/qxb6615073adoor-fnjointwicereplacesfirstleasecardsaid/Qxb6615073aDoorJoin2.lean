import Derived.Test.Qxb6615073aDoorJoin1
namespace Go.Proofs.Qxb6615073aDoor
open Go.RowKit

/-- What a join may touch of what was there. -/
def JY (K : Cx) (T : Nat) (mems0 G0 : Nat → Prop) (b : Nat) : Prop := b = T ∨ b = K.c ∨ b = K.M ∨ b = K.R ∨ mems0 b ∨ G0 b

/-- The state in the course of a join. -/
def JS (K : Cx) (X : Tx) (G : Nat → Prop) (ge L : Int) (N : Nat) (q : Bool) (mems0 G0 : Nat → Prop) (w wr : World) : Prop :=
  Inv K X G ge L N q wr ∧ RepAny K wr ∧ Fr K.B (JY K X.T mems0 G0) w wr

theorem rep_kept {K : Cx} {w w' : World} {Y : Nat → Prop} (h : RepAny K w) (hf : Fr K.B Y w w') (hY : ∀ es ck, w.heap[K.P]? = some (.map es ck) → ¬ Y K.P) : RepAny K w' := by
  obtain ⟨es, ck, e, h2⟩ := h
  exact ⟨es, ck, hf.keepsMap e (hY es ck e), h2⟩

theorem JS.emitted {K : Cx} {X : Tx} {G : Nat → Prop} {ge L : Int} {N : Nat} {q : Bool} {m0 g0 : Nat → Prop} {w wr w' : World} (h : JS K X G ge L N q m0 g0 w wr) (hT : TxnAt K X.T X.now ge (N + 1) w') (hf : Fr K.B (· = X.T) wr w') : JS K X G ge L (N + 1) q m0 g0 w w' :=
  ⟨h.1.emitted hT hf, rep_kept h.2.1 hf (fun es ck e y => by obtain ⟨cs, e2⟩ := h.1.txn.blk; rw [y, e2] at e; simp at e), h.2.2.trans hf (fun _ y => y) (fun b _ y => Or.inl y)⟩

theorem JS.answered {K : Cx} {X : Tx} {G G' : Nat → Prop} {ge L L' : Int} {N N' : Nat} {q q' : Bool} {m0 g0 : Nat → Prop} {w wr w' : World} (h : JS K X G ge L N q m0 g0 w wr) (i7 : Inv K X G' ge L' N' q' w') (hf : Fr K.B (fun b => Touch K X G b ∨ b = K.R) wr w')
    (hm : ∀ b, b < w.heap.size → X.mems b → m0 b) (hG : ∀ b, b < w.heap.size → G b → g0 b) (hP : K.P ≠ K.R) : JS K X G' ge L' N' q' m0 g0 w w' := by
  refine ⟨i7, rep_kept h.2.1 hf (fun es ck e y => y.elim (h.1.not_touch_map e) hP), h.2.2.trans hf (fun _ y => y) (fun b hb y => ?_)⟩
  rcases y with (y | y | y | y) | y
  · exact Or.inl y
  · exact Or.inr (Or.inl y)
  · exact Or.inr (Or.inr (Or.inr (Or.inr (Or.inl (hm b hb y)))))
  · exact Or.inr (Or.inr (Or.inr (Or.inr (Or.inr (hG b hb y)))))
  · exact Or.inr (Or.inr (Or.inr (Or.inl y)))

theorem strs_emit {K : Cx} {T : Nat} {now ge : Int} {N : Nat} {w w' : World} (hT : TxnAt K T now ge N w) (hf : Fr K.B (· = T) w w') {a : Option Addr} {sb n : Nat} {S : Nat → ByteArray} (h : StrsRow w a sb n S) : StrsRow w' a sb n S := by
  obtain ⟨cs, e⟩ := hT.blk
  exact h.kept (fun b cs' hb => (hf.keeps hb (ne_of_types hb e (by decide)) (by decide)).trans hb.symm)

def joinObj (nm : ByteArray) (cand : Value) : Obj := .cells #[.string nm, cand] 69

theorem Pre.same {K : Cx} {T : Nat} {now L : Int} {N : Nat} {mems0 G : Nat → Prop} {E0 : Nat → Int × Int} {w w' : World} (h : Pre K T now L N mems0 G E0 w) (hs : w.heap.size ≤ w'.heap.size) (hk : ∀ b, b < w.heap.size → w'.heap[b]? = w.heap[b]?) : Pre K T now L N mems0 G E0 w' := by
  have hc : ∀ (b : Nat) (o : Obj), w.heap[b]? = some o → w'.heap[b]? = some o := fun b o e => (hk b (lt_of_heap e)).trans e
  refine ⟨Nat.le_trans h.base hs, h.nm, h.ne, h.neP, h.baseT, h.basec, h.baseM, h.baseR, h.basem, h.baseG, h.txn.kept (fun b hb _ => hk b hb), hc _ _ h.rec_, ?_, ?_, ?_, ?_, ?_⟩
  · obtain ⟨es, ck, e, h2⟩ := h.mapM
    exact ⟨es, ck, hc _ _ e, h2⟩
  · obtain ⟨es, ck, e, h2⟩ := h.mapR
    exact ⟨es, ck, hc _ _ e, h2⟩
  · obtain ⟨es, ck, e, h2⟩ := h.mapP
    exact ⟨es, ck, hc _ _ e, h2⟩
  · intro m hm
    obtain ⟨ch, a, n, cp, sb, S, ut, jd, en, h1, h2, h3⟩ := h.old m hm
    exact ⟨ch, a, n, cp, sb, S, ut, jd, en, hc _ _ h1, h2.kept (fun b cs hb => hk b (lt_of_heap hb)), h3⟩
  · intro b hb
    obtain ⟨x, e, ch, u, h1, h2⟩ := h.rol b hb
    exact ⟨x, e, ch, u, hc _ _ h1, h2⟩
theorem Pre.below {K : Cx} {T : Nat} {now L : Int} {N : Nat} {mems0 G : Nat → Prop} {E0 : Nat → Int × Int} {w w' : World} (h : Pre K T now L N mems0 G E0 w) (hb : Below w.heap.size w w') : Pre K T now L N mems0 G E0 w' := h.same hb.size hb.block
theorem Pre.drewN {K : Cx} {T : Nat} {now L : Int} {N : Nat} {mems0 G : Nat → Prop} {E0 : Nat → Int × Int} {w : World} (h : Pre K T now L N mems0 G E0 w) (n : Nat) : Pre K T now L N mems0 G E0 (w.drewN n) := h.same (Nat.le_refl _) (fun _ _ => rfl)

/-- Behind the first join. -/
def Join1Post (K : Cx) (T : Nat) (now L : Int) (n : Nat) (w : World) (e : Ending) (w' : World) : Prop :=
  e = .returned (.tuple #[]) ∧ ∃ m G L', JS K (TxOf T now L (fun _ => False) (fun _ => (0, 0)) m) G (L + 1) L' (2 + 6 * n) true (fun _ => False) (fun _ => False) w w' ∧ L + 1 ≤ L' ∧ L' ≤ L + 1 + n

set_option maxRecDepth 100000 in
set_option maxHeartbeats 4000000 in
theorem join1_any {K : Cx} {T : Nat} {now L : Int} {w : World} (h : Pre K T now L 0 (fun _ => False) (fun _ => False) (fun _ => (0, 0)) w) (hM : w.heap[K.M]? = some (.map #[] 0)) {a : Option Addr} {n cp sb : Nat} {S : Nat → ByteArray} (hS : StrsRow w a sb n S) (hL : -9223372036854775808 ≤ L ∧ L + 100000 < 9223372036854775807) :
    Calls Tryd.prog 20 #[.agg #[.string K.nm, .slice a n cp], ptr T] w (Join1Post K T now L n w) := by
  have H : Hid (Pre K T now L 0 (fun _ => False) (fun _ => False) (fun _ => (0, 0)) w) := h
  have HS : Hid (StrsRow w a sb n S) := hS
  have HM0 : Hid (w.heap[K.M]? = some (.map #[] 0)) := hM
  have hn3 : n ≤ 32768 := hS.2.2
  clear h hS hM
  unfold ptr
  go_enter Tryd.func20, Tryd.ntmps20
  go_upto_region 1 with fail
  obtain ⟨W, hW⟩ : ∃ W, W = w.alloc (joinObj K.nm (.slice a n cp)) := ⟨_, rfl⟩
  rw [show w.alloc (.cells #[.string K.nm, .slice a n cp] 69) = W from hW.symm]
  have bW : Below w.heap.size w W := by rw [hW]; exact (Below.refl _ _).alloc (Nat.le_refl _) _
  have jW : W.heap[w.heap.size]? = some (joinObj K.nm (.slice a n cp)) := by rw [hW]; exact Go.Deep.blk_alloc_new _ _
  have PW : Hid (Pre K T now L 0 (fun _ => False) (fun _ => False) (fun _ => (0, 0)) W) := H.out.below bW
  have MW : W.heap[K.M]? = some (.map #[] 0) := (bW.block _ (lt_of_heap HM0.out)).trans HM0.out
  have t0 : W.cell? ⟨T, 0, none⟩ = some (.pointer (some ⟨K.c, 0, none⟩)) := PW.out.txn.c0
  have c6 := PW.out.rec_.c6
  have j0 : W.cell? ⟨w.heap.size, 0, none⟩ = some (.string K.nm) := by rw [cell_of jW]; rfl
  have lk : ∀ n, (Instr.lookup 49 (.map (some K.M)) (.string K.nm) true).run Tryd.prog (W.drewN n) = .ok (.tuple #[.pointer none, .bool false]) (W.drewN n) := fun n => MemsAny.look_empty (w := W.drewN n) MW H.out.nm
  have HW : Hid (Below w.heap.size w W ∧ W.heap[w.heap.size]? = some (joinObj K.nm (.slice a n cp))) := ⟨bW, jW⟩
  clear hW bW jW MW
  go_quiet (fail)
  go_upto_region 4 with fail
  have PV : Hid (Pre K T now L 0 (fun _ => False) (fun _ => False) (fun _ => (0, 0)) (W.drewN nq)) := PW.out.drewN nq
  have JV : Hid ((W.drewN nq).heap[w.heap.size]? = some (joinObj K.nm (.slice a n cp)) ∧ w.heap.size ≠ K.c) := ⟨HW.out.2, fun e => by have := lt_of_heap H.out.rec_; omega⟩
  have TC : Hid (T ≠ K.c) := by obtain ⟨cs, e⟩ := H.out.txn.blk; exact ne_of_types e H.out.rec_ (by decide)
  have SV : Hid (StrsRow (W.drewN nq) a sb n S) := HS.out.kept (fun b cs hb => HW.out.1.block b (lt_of_heap hb))
  have FV : Hid (Fr K.B (JY K T (fun _ => False) (fun _ => False)) w (W.drewN nq)) := (Fr.of_below HW.out.1).drewN nq
  clear t0 c6 j0 lk
  go_wp2_with fail
  refine (next_any K T now 0 L 0 _ PV.out.txn PV.out.rec_ (by omega)).mono ?_
  rintro e w2 ⟨rfl, hR2, hs2, hf2, hk2⟩
  generalize hC : IntKind.u64.wrap (K.C0 + (L + 1 - K.L0)) = C at *
  have q0 : w2.cell? ⟨w.heap.size, 0, none⟩ = some (.string K.nm) := cell_same (hk2 _ JV.out.2) (by rw [cell_of JV.out.1]; rfl)
  have q1 : w2.cell? ⟨w.heap.size, 1, none⟩ = some (.slice a n cp) := cell_same (hk2 _ JV.out.2) (by rw [cell_of JV.out.1]; rfl)
  have u1 : w2.cell? ⟨T, 1, none⟩ = some (.int .i64 now) := cell_same (hk2 _ TC.out) PV.out.txn.c1
  have u0 : w2.cell? ⟨T, 0, none⟩ = some (.pointer (some ⟨K.c, 0, none⟩)) := cell_same (hk2 _ TC.out) PV.out.txn.c0
  have d6 := hR2.c6
  have HR2 : Hid (RecAt K (L + 1) w2 ∧ (∀ b, b ≠ K.c → w2.heap[b]? = (W.drewN nq).heap[b]?) ∧ w2.heap.size = (W.drewN nq).heap.size ∧ Fr K.B (· = K.c) (W.drewN nq) w2) := ⟨hR2, hk2, hs2, hf2⟩
  clear hR2 hk2 hs2 hf2 hC
  go_upto_region 5 with fail
  refine wp_region_quiet_tail 12 (by kernel_rfl) (by kernel_rfl) ?_
  simp only [List.take_succ_cons, List.take_zero, List.drop_succ_cons, List.drop_zero]
  repeat (go_big_quiet_step (fail))
  refine wpQuiet_nil ?_
  go_upto_region 6 with fail
  obtain ⟨Z, hZ⟩ : ∃ Z, Z = w2.alloc (memObj K.nm (L + 1) now C (.slice a n cp)) := ⟨_, rfl⟩
  rw [show w2.alloc (.cells #[.string K.nm, .int .i64 (L + 1), .int .i64 now, .int .i64 0, .bool false, .int .u64 C, .slice a n cp, .slice none 0 0, .bool false, .bool false, .int .i64 0] 77) = Z from hZ.symm]
  have bZ : Below w2.heap.size w2 Z := by rw [hZ]; exact (Below.refl _ _).alloc (Nat.le_refl _) _
  have p0 : Z.cell? ⟨w.heap.size, 0, none⟩ = some (.string K.nm) := cell_same (bZ.block _ (lt_of_cell q0)) q0
  have v0 : Z.cell? ⟨T, 0, none⟩ = some (.pointer (some ⟨K.c, 0, none⟩)) := cell_same (bZ.block _ (lt_of_cell u0)) u0
  have e6 : Z.cell? ⟨K.c, 6, none⟩ = some (.map (some K.M)) := cell_same (bZ.block _ (lt_of_cell d6)) d6
  obtain ⟨w4, hrun, i4, hm4, hS4, hP4, ho4⟩ := PV.out.install HR2.out.1 HR2.out.2.1 HR2.out.2.2.1 SV.out (Z := Z.drew.drew) (by rw [hZ]; rfl)
  have J4 : Hid (JS K (TxOf T now L (fun _ => False) (fun _ => (0, 0)) w2.heap.size) (fun _ => False) 0 (L + 1) 0 true (fun _ => False) (fun _ => False) w w4) := by
    refine ⟨i4, hP4, ((FV.out.trans HR2.out.2.2.2 (fun _ y => y) (fun b _ y => Or.inr (Or.inl y))).trans (Fr.of_below (Y := fun _ => False) bZ) (fun _ y => y) (fun _ _ y => y.elim)).trans (Y2 := (· = K.M)) ?_ (fun _ y => y) (fun b _ y => Or.inr (Or.inr (Or.inl y)))⟩
    have := ho4.fr (B := K.B)
    exact ⟨this.os, this.tape, this.output, this.size, this.block⟩
  have HM4 : Hid (MemRec w2.heap.size K.nm (L + 1) now 0 false C (.slice a n cp) false false 0 w4 ∧ StrsRow w4 a sb n S) := ⟨hm4, hS4⟩
  clear hZ bZ i4 hm4 hS4 hP4 ho4 q0 q1 u0 u1 d6
  refine wp_region_quiet_tail 10 (by kernel_rfl) (by kernel_rfl) ?_
  simp only [List.take_succ_cons, List.take_zero, List.drop_succ_cons, List.drop_zero]
  repeat (go_big_quiet_step (fail))
  refine wpQuiet_nil ?_
  go_wp2_with fail
  refine (watch_any K T w2.heap.size now 0 (L + 1) (L + 1) now 0 false K.nm C _ false false 0 0 w4 J4.out.1.txn J4.out.1.rec_ HM4.out.1 J4.out.1.base (by omega)).mono ?_
  rintro e w5 ⟨rfl, hT5, hf5⟩
  have HM5 : Hid (MemRec w2.heap.size K.nm (L + 1) now 0 false C (.slice a n cp) false false 0 w5) := (kept_emit (L := L + 1) J4.out.1.txn hf5).2.2 _ _ _ _ _ _ _ _ _ _ _ HM4.out.1
  have HS5 : Hid (StrsRow w5 a sb n S) := strs_emit J4.out.1.txn hf5 HM4.out.2
  have J5 : Hid (JS K (TxOf T now L (fun _ => False) (fun _ => (0, 0)) w2.heap.size) (fun _ => False) 0 (L + 1) (0 + 1) true (fun _ => False) (fun _ => False) w w5) := J4.out.emitted hT5 hf5
  have o0 : w5.cell? ⟨w2.heap.size, 0, none⟩ = some (.string K.nm) := by rw [cell_of HM5.out]; rfl
  clear hT5 hf5 p0 v0 e6 hrun
  go_wp2_with fail
  refine (emit_any K T now 0 (0 + 1) w5 _ _ J5.out.1.txn J5.out.1.base (by omega)).mono ?_
  rintro e w6 ⟨rfl, hT6, hf6⟩
  have HM6 : Hid (MemRec w2.heap.size K.nm (L + 1) now 0 false C (.slice a n cp) false false 0 w6) := (kept_emit (L := L + 1) J5.out.1.txn hf6).2.2 _ _ _ _ _ _ _ _ _ _ _ HM5.out
  have HS6 : Hid (StrsRow w6 a sb n S) := strs_emit J5.out.1.txn hf6 HS5.out
  have J6 : Hid (JS K (TxOf T now L (fun _ => False) (fun _ => (0, 0)) w2.heap.size) (fun _ => False) 0 (L + 1) (0 + 1 + 1) true (fun _ => False) (fun _ => False) w w6) := J5.out.emitted hT6 hf6
  clear hT6 hf6 o0
  go_wp2_with fail
  refine (answer_any J6.out.1 (show w6.cell? ⟨w2.heap.size, 6, none⟩ = some (.slice a n cp) from by rw [cell_of HM6.out]; rfl) HS6.out (by omega) (by omega)).mono ?_
  rintro e w7 ⟨ms, gR, gH, ca, L', G', rfl, l1, l2, s1, s2, i7, f7⟩
  have J7 : Hid (JS K (TxOf T now L (fun _ => False) (fun _ => (0, 0)) w2.heap.size) G' 0 L' (0 + 1 + 1 + 6 * n) true (fun _ => False) (fun _ => False) w w7) := J6.out.answered i7 f7 (fun b hb y => y.elim id (fun e => by have h1 := HR2.out.2.2.1; have h2 := FV.out.size; have h3 : b = w2.heap.size := e; omega)) (fun _ _ y => y) H.out.neP.2
  obtain ⟨tc, tf⟩ := i7.txnCells
  clear i7 f7
  obtain ⟨y4, k4⟩ := tc 4 (by decide)
  obtain ⟨y5, k5⟩ := tc 5 (by decide)
  obtain ⟨y6, k6⟩ := tc 6 (by decide)
  obtain ⟨y7, k7⟩ := tc 7 (by decide)
  obtain ⟨y8, k8⟩ := tc 8 (by decide)
  obtain ⟨y9, k9⟩ := tc 9 (by decide)
  obtain ⟨y10, k10⟩ := tc 10 (by decide)
  have t4 := tf 4
  have t5 := tf 5
  have t6 := tf 6
  have t7 := tf 7
  have t8 := tf 8
  have t9 := tf 9
  have t10 := tf 10
  clear tc tf
  unfold grantVal
  have eE : ((TxOf T now L (fun _ => False) (fun _ => (0, 0)) w2.heap.size).E (TxOf T now L (fun _ => False) (fun _ => (0, 0)) w2.heap.size).cur).1 = L + 1 := by simp [TxOf]
  rw [eE]
  simp only [TxOf] at k4 k5 k6 k7 k8 k9 k10 t4 t5 t6 t7 t8 t9 t10
  go_upto_region 10 with fail
  obtain ⟨i8, o8⟩ := J7.out.1.setRes K.nm (L + 1) ms (.map gR) (.map gH) ca
  obtain ⟨Y, hY⟩ : ∃ Y, Y = setRes w7 T K.nm (L + 1) ms (.map gR) (.map gH) ca := ⟨_, rfl⟩
  rw [show ((((((w7.setCell ⟨T, 4, none⟩ (.string K.nm)).setCell ⟨T, 5, none⟩ (.int .i64 (L + 1))).setCell ⟨T, 6, none⟩ (.int .i64 ms)).setCell ⟨T, 7, none⟩ (.map gR)).setCell ⟨T, 8, none⟩ (.map gH)).setCell ⟨T, 9, none⟩ (.string { data := #[] })).setCell ⟨T, 10, none⟩ (.int .u64 ca) = Y from hY.symm]
  have J8 : Hid (JS K (TxOf T now L (fun _ => False) (fun _ => (0, 0)) w2.heap.size) G' (L + 1) L' (0 + 1 + 1 + 6 * n) true (fun _ => False) (fun _ => False) w Y) := by
    rw [hY]
    exact ⟨i8, rep_kept J7.out.2.1 (o8.fr (B := K.B)) (fun es ck e y => by obtain ⟨cs, e2⟩ := J7.out.1.txn.blk; rw [y, e2] at e; simp at e), J7.out.2.2.trans (o8.fr (B := K.B)) (fun _ y => y) (fun b _ y => Or.inl y)⟩
  clear i8 o8 hY
  go_wp2
  go_end0
  exact ⟨rfl, w2.heap.size, G', L', by have := J8.out; rwa [show 0 + 1 + 1 + 6 * n = 2 + 6 * n by omega] at this, by omega, by omega⟩
end Go.Proofs.Qxb6615073aDoor
