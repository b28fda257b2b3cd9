import Derived.Test.Qxb6615073aDoorSet
namespace Go.Proofs.Qxb6615073aDoor
open Go.RowKit

theorem TxnAt.c3 {K : Cx} {T : Nat} {now ge : Int} {N : Nat} {w : World} (h : TxnAt K T now ge N w) : w.cell? ⟨T, 3, none⟩ = some .nilIface := by
  obtain ⟨v, n, xs, gm, gl, gr, gh, gk, ca, x11, x12, x13, x14, hb, _⟩ := h
  rw [cell_of hb]; rfl
theorem TxnAt.c5 {K : Cx} {T : Nat} {now ge : Int} {N : Nat} {w : World} (h : TxnAt K T now ge N w) : w.cell? ⟨T, 5, none⟩ = some (.int .i64 ge) := by
  obtain ⟨v, n, xs, gm, gl, gr, gh, gk, ca, x11, x12, x13, x14, hb, _⟩ := h
  rw [cell_of hb]; rfl

/-- All that the law looks at, behind both joins. -/
structure Fin (K : Cx) (T1 T2 m2 : Nat) (L L1 L2 now2 : Int) (w w7 : World) : Prop where
  e1 : w7.cell? ⟨T1, 3, none⟩ = some .nilIface
  g1 : w7.cell? ⟨T1, 5, none⟩ = some (.int .i64 (L + 1))
  e2 : w7.cell? ⟨T2, 3, none⟩ = some .nilIface
  g2 : w7.cell? ⟨T2, 5, none⟩ = some (.int .i64 (L1 + 1))
  rec_ : RecAt K L2 w7
  mem : MembersAt K m2 w7
  memr : ∃ ch a n cp jd en, MemRec m2 K.nm (L1 + 1) now2 0 false ch (.slice a n cp) false jd en w7
  rep : RepAt K (L + 1) w7
  below : Below w.heap.size w w7

theorem fin_facts {K : Cx} {T1 m1 : Nat} {L L1 now1 now2 : Int} {N : Nat} {G1 : Nat → Prop} {w w4 w5 w6 w7 : World} (hB : K.B = w.heap.size) (b4 : Below w.heap.size w w4) (bT : w.heap.size ≤ T1) (bP : w.heap.size ≤ K.P) (hsz : w.heap.size ≤ w4.heap.size)
    (hJ : JS K (TxOf T1 now1 L (fun _ => False) (fun _ => (0, 0)) m1) G1 (L + 1) L1 N true (fun _ => False) (fun _ => False) w4 w5) (hw6 : w6 = w5.alloc (txnObj K.c now2))
    {m2 : Nat} {G2 : Nat → Prop} {L2 : Int} {N2 : Nat}
    (i7 : Inv K (TxOf w5.heap.size now2 L1 (TxOf T1 now1 L (fun _ => False) (fun _ => (0, 0)) m1).mems (TxOf T1 now1 L (fun _ => False) (fun _ => (0, 0)) m1).E m2) G2 (L1 + 1) L2 N2 true w7)
    (r7 : RepAt K ((TxOf T1 now1 L (fun _ => False) (fun _ => (0, 0)) m1).E m1).1 w7)
    (f7 : Fr K.B (fun b => JY K w5.heap.size (TxOf T1 now1 L (fun _ => False) (fun _ => (0, 0)) m1).mems G1 b ∨ b = K.P) w6 w7) : Fin K T1 w5.heap.size m2 L L1 L2 now2 w w7 := by
  have hb6 : Below w5.heap.size w5 w6 := by rw [hw6]; exact (Below.refl _ _).alloc (Nat.le_refl _) _
  obtain ⟨i5, r5, f5⟩ := hJ
  have hT5 : TxnAt K T1 now1 (L + 1) N w5 := i5.txn
  obtain ⟨v, n, xs, gm, gl, gr, gh, gk, ca, x11, x12, x13, x14, hb, _⟩ := id hT5
  have hlt := lt_of_heap hb
  have h6 := (hb6.block T1 hlt).trans hb
  have hnot : ¬ (JY K w5.heap.size (TxOf T1 now1 L (fun _ => False) (fun _ => (0, 0)) m1).mems G1 T1 ∨ T1 = K.P) := by
    rintro ((y | y | y | y | y | y) | y)
    · omega
    · exact ne_of_types hb i5.rec_ (by decide) y
    · obtain ⟨_, _, e⟩ := i5.Mmap; rw [← y, hb] at e; simp at e
    · obtain ⟨_, _, e⟩ := i5.Rmap; rw [← y, hb] at e; simp at e
    · obtain ⟨_, e⟩ := (i5.mem T1 y).blk; rw [hb] at e; simp at e
    · obtain ⟨_, e⟩ := (i5.rol T1 y).blk; rw [hb] at e; simp at e
    · obtain ⟨_, _, e, _⟩ := r5; rw [← y, hb] at e; simp at e
  have h7 := f7.keeps h6 hnot (by decide)
  refine ⟨by rw [cell_of h7]; rfl, by rw [cell_of h7]; rfl, i7.txn.c3, i7.txn.c5, i7.rec_, i7.mapM, ?_, by simpa [TxOf] using r7, ?_⟩
  · obtain ⟨ch, a, n, cp, sb, S, ut, jd, en, h1, _, _, h4⟩ := i7.mem m2 i7.curIn
    have hut : ut = false := h4 rfl rfl
    subst hut
    exact ⟨ch, a, n, cp, jd, en, by simpa [TxOf] using h1⟩
  · have B5 : Below w.heap.size w5 w6 := hb6.mono (by have := f5.size; omega)
    rw [hB] at f5 f7
    have c5 : Below w.heap.size w4 w5 := f5.below hsz (fun b y => by
      rcases y with y | y | y | y | y | y
      · rw [y]; exact bT
      · rw [y, ← hB]; exact i5.basec
      · rw [y, ← hB]; exact i5.baseM
      · rw [y, ← hB]; exact i5.baseR
      · exact y.elim
      · exact y.elim)
    have hs5 := f5.size
    have c7 : Below w.heap.size w6 w7 := f7.below (Nat.le_trans hsz (Nat.le_trans hs5 hb6.size)) (fun b y => by
      rcases y with (y | y | y | y | y | y) | y
      · rw [y]; omega
      · rw [y, ← hB]; exact i5.basec
      · rw [y, ← hB]; exact i5.baseM
      · rw [y, ← hB]; exact i5.baseR
      · rw [← hB]; exact i5.basem b y
      · rw [← hB]; exact i5.baseG b y
      · rw [y]; exact bP)
    exact ((b4.trans c5).trans B5).trans c7

def LawPost (w : World) (e : Ending) (w' : World) : Prop := e = .returned (.bool true) ∧ Below w.heap.size w w'

set_option maxRecDepth 100000 in
set_option maxHeartbeats 8000000 in
theorem law_any (l d L C now1 now2 : Int) (nm : ByteArray) (a1 a2 : Option Addr) (b1 o1 n1 c1 b2 o2 n2 c2 : Nat) (S1 S2 : Nat → ByteArray) (w : World)
    (hL : -9223372036854775808 ≤ L) (hC : 0 ≤ C ∧ C < 18446744073709551616) (hs : nm.size ≤ 9223372036854775807) (hn1 : n1 ≤ 9223372036854775807) (hn2 : n2 ≤ 9223372036854775807) (h1 : StrsIn w a1 b1 o1 n1 S1) (h2 : StrsIn w a2 b2 o2 n2 S2) :
    Calls Tryd.prog 3 #[.int .i64 l, .int .i64 d, .int .i64 L, .int .u64 C, .string nm, .slice a1 n1 c1, .slice a2 n2 c2, .int .i64 now1, .int .i64 now2] w (LawPost w) := by
  have H1 : Hid (StrsIn w a1 b1 o1 n1 S1) := h1
  have H2 : Hid (StrsIn w a2 b2 o2 n2 S2) := h2
  clear h1 h2
  go_enter Tryd.func3, Tryd.ntmps3
  go_wp2_with fail
  refine (bytes_any l d L C now1 now2 nm a1 a2 b1 o1 n1 c1 b2 o2 n2 c2 S1 S2 w hs hn1 hn2 H1.out H2.out).mono ?_
  rintro e w0 ⟨r, rfl, hw0⟩
  rw [hw0]
  clear hw0 w0
  cases r
  · go_wp2
    go_ret
    exact ⟨rfl, Below.refl _ _⟩
  by_cases hm : (262144 : Int) < (nm.size : Int)
  · go_wp2
    go_ret
    exact ⟨rfl, Below.refl _ _⟩
  go_wp2_with fail
  refine (strsBytes_in a1 b1 o1 n1 c1 S1 0 524288 w hn1 H1.out (by omega) (by omega) (by omega)).mono ?_
  rintro e w0 ⟨t1, big, rfl, hb1, hw0⟩
  rw [hw0]
  clear hw0 w0
  cases big
  case true =>
    go_wp2
    go_ret
    exact ⟨rfl, Below.refl _ _⟩
  obtain ⟨q1, q2⟩ := hb1 rfl
  clear hb1
  go_wp2_with fail
  refine (strsBytes_in a2 b2 o2 n2 c2 S2 t1 524288 w hn2 H2.out (by omega) (by omega) (by omega)).mono ?_
  rintro e w0 ⟨t2, big, rfl, hb2, hw0⟩
  rw [hw0]
  clear hw0 w0
  cases big
  case true =>
    go_wp2
    go_ret
    exact ⟨rfl, Below.refl _ _⟩
  obtain ⟨q3, q4⟩ := hb2 rfl
  clear hb2
  by_cases hl : 9223372036853727231 < L
  · go_wp2
    go_ret
    exact ⟨rfl, Below.refl _ _⟩
  have hL1 : L ≤ 9223372036853727231 := by omega
  have N1 : n1 ≤ 32768 := by omega
  have N2 : n2 ≤ 32768 := by omega
  go_wp2_with fail
  refine (clone_in a1 b1 o1 n1 c1 S1 w N1 H1.out).mono ?_
  rintro e w1 ⟨x1, y1, rfl, s1, e1⟩
  have H2' : StrsIn w1 a2 b2 o2 n2 S2 := ⟨H2.out.at_, fun j hj => cell_same (e1.block _ (lt_of_cell (H2.out.cell j hj))) (H2.out.cell j hj), H2.out.size⟩
  have HS1 : Hid (StrsRow w1 x1 w.heap.size n1 S1 ∧ Below w.heap.size w w1 ∧ StrsIn w1 a2 b2 o2 n2 S2) := ⟨s1, e1, H2'⟩
  clear s1 e1 H2'
  go_wp2_with fail
  refine (clone_in a2 b2 o2 n2 c2 S2 w1 N2 HS1.out.2.2).mono ?_
  rintro e w2 ⟨x2, y2, rfl, s2, e2⟩
  have HS2 : Hid (StrsRow w2 x1 w.heap.size n1 S1 ∧ StrsRow w2 x2 w1.heap.size n2 S2 ∧ Below w.heap.size w w2) := ⟨HS1.out.1.kept (fun b cs hb => e2.block b (lt_of_heap hb)), s2, HS1.out.2.1.trans (e2.mono HS1.out.2.1.size)⟩
  clear s2 e2
  go_wp2_with fail
  refine (newRecords_any l d L C w2).mono ?_
  rintro e w3 ⟨rfl, hw3⟩
  have hs3 : w3.heap.size = w2.heap.size + 4 := by rw [hw3]; simp
  have HW3 : Hid (w3 = (((w2.alloc (.map #[] 0)).alloc (.map #[] 0)).alloc (.map #[] 0)).alloc (recObj w2.heap.size l d L C)) := hw3
  clear hw3
  unfold ptr
  go_wp2_with fail
  refine (newTxn_any (w2.heap.size + 3) now1 w3).mono ?_
  rintro e w4 ⟨rfl, hw4⟩
  rw [hs3]
  have HW4 : Hid (w4 = ((((w2.alloc (.map #[] 0)).alloc (.map #[] 0)).alloc (.map #[] 0)).alloc (recObj w2.heap.size l d L C)).alloc (txnObj (w2.heap.size + 3) now1)) := by rw [hw4, HW3.out]; rfl
  clear hw4
  have FP := first_pre (B := w.heap.size) (nm := nm) (now := now1) HS2.out.2.2.size (by unfold maxLen; exact hs) hC HW4.out
  have HP : Hid (Pre (cxOf w.heap.size w2.heap.size l d L C nm) (w2.heap.size + 4) now1 L 0 (fun _ => False) (fun _ => False) (fun _ => (0, 0)) w4 ∧ w4.heap[(cxOf w.heap.size w2.heap.size l d L C nm).M]? = some (.map #[] 0) ∧ Below w2.heap.size w2 w4 ∧ w4.heap.size = w2.heap.size + 5) := FP
  clear FP
  have HS4 : Hid (StrsRow w4 x1 w.heap.size n1 S1) := HS2.out.1.kept (fun b cs hb => HP.out.2.2.1.block b (lt_of_heap hb))
  unfold ptr
  go_wp2_with fail
  refine (zzjoin1_any (K := cxOf w.heap.size w2.heap.size l d L C nm) HP.out.1 HP.out.2.1 HS4.out ⟨hL, by omega⟩).mono ?_
  rintro e w5 ⟨rfl, m1, G1, L1, hJ, l1, l2⟩
  have HJ : Hid (JS (cxOf w.heap.size w2.heap.size l d L C nm) (TxOf (w2.heap.size + 4) now1 L (fun _ => False) (fun _ => (0, 0)) m1) G1 (L + 1) L1 (2 + 6 * n1) true (fun _ => False) (fun _ => False) w4 w5) := hJ
  clear hJ
  go_wp2_with fail
  refine (last_any (w2.heap.size + 3) L1 w5 HJ.out.1.rec_.c9).mono ?_
  rintro e w0 ⟨rfl, hw0⟩
  rw [hw0]
  clear hw0 w0
  go_wp2_with fail
  refine (newTxn_any (w2.heap.size + 3) now2 w5).mono ?_
  rintro e w6 ⟨rfl, hw6⟩
  have HW6 : Hid (w6 = w5.alloc (txnObj (w2.heap.size + 3) now2)) := hw6
  clear hw6
  have hb6 : Hid (Below w5.heap.size w5 w6) := by rw [HW6.out]; exact (Below.refl _ _).alloc (Nat.le_refl _) _
  have I6 := second_inv HJ.out.1 (fun b y => y.elim (fun y => y.elim) id) now2 HW6.out
  have HI6 : Hid (Inv (cxOf w.heap.size w2.heap.size l d L C nm) ⟨w5.heap.size, now2, m1, (TxOf (w2.heap.size + 4) now1 L (fun _ => False) (fun _ => (0, 0)) m1).mems, (TxOf (w2.heap.size + 4) now1 L (fun _ => False) (fun _ => (0, 0)) m1).E⟩ G1 0 L1 (2 + 6 * n1) true w6) := I6
  clear I6
  have HR6 : Hid (RepAny (cxOf w.heap.size w2.heap.size l d L C nm) w6) := HJ.out.2.1.kept (hb6.out.block _ (by obtain ⟨_, _, e, _⟩ := HJ.out.2.1; exact lt_of_heap e))
  have HS6 : Hid (StrsRow w6 x2 w1.heap.size n2 S2) := by
    have s4 : StrsRow w4 x2 w1.heap.size n2 S2 := HS2.out.2.1.kept (fun b cs hb => HP.out.2.2.1.block b (lt_of_heap hb))
    refine (s4.kept (w' := w5) (fun b cs hb => ?_)).kept (fun b cs hb => hb6.out.block b (lt_of_heap hb))
    refine (HJ.out.2.2.keeps hb (fun y => ?_) (by decide)).trans hb.symm
    rcases y with y | y | y | y | y | y
    · obtain ⟨_, e⟩ := HP.out.1.txn.blk
      rw [y, show w4.heap[(TxOf (w2.heap.size + 4) now1 L (fun _ => False) (fun _ => (0, 0)) m1).T]? = _ from e] at hb
      simp at hb
    · exact ne_of_types hb HP.out.1.rec_ (by decide) y
    · obtain ⟨_, _, e, _⟩ := HP.out.1.mapM; rw [y, e] at hb; simp at hb
    · obtain ⟨_, _, e, _⟩ := HP.out.1.mapR; rw [y, e] at hb; simp at hb
    · exact y
    · exact y
  unfold ptr
  go_wp2_with fail
  refine (zzjoin2_any (K := cxOf w.heap.size w2.heap.size l d L C nm) HI6.out (fun b y => y.elim (fun y => y.elim) id) HP.out.1.neP HR6.out HS6.out ⟨by omega, by omega⟩ (by omega) (by simp only [TxOf, if_true]; exact WalkArith.wf_i64 (by omega))).mono ?_
  rintro e w7 ⟨rfl, m2, G2, L2, N3, i7, r7, f7, l3, l4⟩
  have FF : Hid (Fin (cxOf w.heap.size w2.heap.size l d L C nm) (w2.heap.size + 4) w5.heap.size m2 L L1 L2 now2 w w7) :=
    fin_facts rfl (HS2.out.2.2.trans (HP.out.2.2.1.mono HS2.out.2.2.size)) (by have := HS2.out.2.2.size; omega) (by show w.heap.size ≤ w2.heap.size + 2; have := HS2.out.2.2.size; omega) (by have := HS2.out.2.2.size; have := HP.out.2.2.2; omega) HJ.out HW6.out i7 r7 f7
  clear i7 r7 f7
  have v1 := FF.out.e1
  have v2 := FF.out.g1
  have v3 := FF.out.e2
  have v4 := FF.out.g2
  have v5 : w7.cell? ⟨w2.heap.size + 3, 9, none⟩ = some (.int .i64 L2) := FF.out.rec_.c9
  have v6 : w7.cell? ⟨w2.heap.size + 3, 10, none⟩ = some (.int .u64 (IntKind.u64.wrap (C + (L2 - L)))) := FF.out.rec_.c10
  go_wp2_with fail
  refine (err_any (w2.heap.size + 4) w7 v1).mono ?_
  rintro e w0 ⟨rfl, hw0⟩
  rw [hw0]
  clear hw0 w0
  go_wp2_with fail
  refine (err_any w5.heap.size w7 v3).mono ?_
  rintro e w0 ⟨rfl, hw0⟩
  rw [hw0]
  clear hw0 w0
  go_wp2_with fail
  refine (grantEpoch_any (w2.heap.size + 4) (L + 1) w7 v2).mono ?_
  rintro e w0 ⟨rfl, hw0⟩
  rw [hw0]
  clear hw0 w0
  go_wp2_with fail
  refine (grantEpoch_any w5.heap.size (L1 + 1) w7 v4).mono ?_
  rintro e w0 ⟨rfl, hw0⟩
  rw [hw0]
  clear hw0 w0
  go_wp2_with fail
  refine (hasMember_any (cxOf w.heap.size w2.heap.size l d L C nm) m2 w7 FF.out.mem HP.out.1.nm FF.out.rec_.c6).mono ?_
  rintro e w0 ⟨rfl, hw0⟩
  rw [hw0]
  clear hw0 w0
  obtain ⟨ch7, a7, n7, cp7, jd7, en7, mr7⟩ := FF.out.memr
  have mc7 : w7.cell? ⟨m2, 1, none⟩ = some (.int .i64 (L1 + 1)) := by rw [cell_of mr7]; rfl
  have MR : Hid (MemRec m2 nm (L1 + 1) now2 0 false ch7 (.slice a7 n7 cp7) false jd7 en7 w7) := mr7
  clear mr7
  go_wp2_with fail
  refine (memberEpoch_any (cxOf w.heap.size w2.heap.size l d L C nm) m2 (L1 + 1) w7 FF.out.mem HP.out.1.nm FF.out.rec_.c6 mc7).mono ?_
  rintro e w0 ⟨rfl, hw0⟩
  rw [hw0]
  clear hw0 w0
  go_wp2_with fail
  refine (hasReplaced_any (cxOf w.heap.size w2.heap.size l d L C nm) (L + 1) w7 FF.out.rep (WalkArith.wf_i64 (by omega)) FF.out.rec_.c8).mono ?_
  rintro e w0 ⟨rfl, hw0⟩
  rw [hw0]
  clear hw0 w0
  go_wp2_with fail
  refine (last_any (w2.heap.size + 3) L2 w7 v5).mono ?_
  rintro e w0 ⟨rfl, hw0⟩
  rw [hw0]
  clear hw0 w0
  go_wp2_with fail
  refine (changes_any (w2.heap.size + 3) (IntKind.u64.wrap (C + (L2 - L))) w7 v6).mono ?_
  rintro e w0 ⟨rfl, hw0⟩
  rw [hw0]
  clear hw0 w0
  have hch : (wrap64 (IntKind.u64.wrap (IntKind.u64.wrap (C + (L2 - L)) - C)) != L2 - L) = false := by rw [changes_eq (by omega) (by omega)]; simp
  have hne : (L1 + 1 == L + 1) = false := by rw [beq_eq_false_iff_ne]; omega
  go_wp2_with fail
  refine (zzmayWait_any (w2.heap.size + 3) nm (L + 1) now2 w7 false (mayWait_no (cxOf w.heap.size w2.heap.size l d L C nm) m2 (L1 + 1) (L + 1) now2 w7 FF.out.mem HP.out.1.nm FF.out.rec_.c6 mc7 hne)).mono ?_
  rintro e w8 ⟨rfl, b8⟩
  have B8 : Hid (Below w7.heap.size w7 w8 ∧ Below w.heap.size w w8) := ⟨b8, FF.out.below.trans (b8.mono FF.out.below.size)⟩
  clear b8
  go_wp2_with fail
  refine (ordRule_any l d w8).mono ?_
  rintro e w0 ⟨r, rfl, hor, hw0⟩
  rw [hw0]
  clear hw0 w0
  cases r
  · go_wp2
    go_ret
    exact ⟨rfl, B8.out.2⟩
  obtain ⟨k1, k2, k3, k4⟩ := hor rfl
  clear hor
  go_wp2_with fail
  refine (ordMoment_any now2 w8).mono ?_
  rintro e w0 ⟨r, rfl, hor, hw0⟩
  rw [hw0]
  clear hw0 w0
  cases r
  · go_wp2
    go_ret
    exact ⟨rfl, B8.out.2⟩
  obtain ⟨k5, k6⟩ := hor rfl
  clear hor
  have hst : Hid (stateOf l d now2 0 now2 = 0) := state_ordinary k1 k2 k3 k4 k5 k6
  go_wp2_with fail
  refine (zzmayWait_any (w2.heap.size + 3) nm (L1 + 1) now2 w8 true (mayWait_yes (cxOf w.heap.size w2.heap.size l d L C nm) m2 (L1 + 1) now2 now2 L2 ch7 _ jd7 en7 w8 (FF.out.mem.kept (B8.out.1.block _ FF.out.mem.lt)) HP.out.1.nm ((B8.out.1.block _ (lt_of_heap FF.out.rec_)).trans FF.out.rec_) ((B8.out.1.block _ (lt_of_heap MR.out)).trans MR.out) hst.out)).mono ?_
  rintro e w9 ⟨rfl, b9⟩
  go_wp2
  go_ret
  exact ⟨rfl, B8.out.2.trans (b9.mono B8.out.2.size)⟩
end Go.Proofs.Qxb6615073aDoor
