import Derived.Test.Qxb6615073aDoorJoin0
namespace Go.Proofs.Qxb6615073aDoor
open Go.RowKit

theorem answer_any {K : Cx} {X : Tx} {G : Nat → Prop} {ge L : Int} {N : Nat} {w : World} (h : Inv K X G ge L N true w) {a : Option Addr} {n cp sb : Nat} {S : Nat → ByteArray} (m6 : w.cell? ⟨X.cur, 6, none⟩ = some (.slice a n cp)) (hS : StrsRow w a sb n S)
    (hN : N < 500000) (hL : -9223372036854775808 ≤ L ∧ L + n < 9223372036854775807) : Calls Tryd.prog 27 #[ptr X.T, ptr X.cur] w (AnsPost K X G ge L N n w) := by
  rcases Nat.eq_zero_or_pos n with rfl | hn
  · exact answer_none h m6
  · exact answer_some h m6 hS hn hN hL

/-- A lease that was replaced: judged if it is fenced. -/
def OldAt (K : Cx) (now : Int) (E0 : Nat → Int × Int) (m : Nat) (w : World) : Prop :=
  ∃ ch a n cp sb S ut jd en, MemRec m K.nm (E0 m).1 (E0 m).2 0 false ch (.slice a n cp) ut jd en w ∧ StrsRow w a sb n S ∧ (stateOf K.l K.d (E0 m).2 0 now = 2 → jd = true)

/-- The state ahead of a new lease. -/
structure Pre (K : Cx) (T : Nat) (now L : Int) (N : Nat) (mems0 G : Nat → Prop) (E0 : Nat → Int × Int) (w : World) : Prop where
  base : K.B ≤ w.heap.size
  nm : K.nm.size ≤ maxLen
  ne : K.M ≠ K.R
  neP : K.P ≠ K.M ∧ K.P ≠ K.R
  baseT : K.B ≤ T
  basec : K.B ≤ K.c
  baseM : K.B ≤ K.M
  baseR : K.B ≤ K.R
  basem : ∀ m, mems0 m → K.B ≤ m
  baseG : ∀ b, G b → K.B ≤ b
  txn : TxnAt K T now 0 N w
  rec_ : RecAt K L w
  mapM : MemsAny K w
  mapR : RolesAt K G N w
  mapP : RepAny K w
  old : ∀ m, mems0 m → OldAt K now E0 m w
  rol : ∀ b, G b → RolAt mems0 b w

def memObj (nm : ByteArray) (ep now ch : Int) (cand : Value) : Obj := .cells #[.string nm, .int .i64 ep, .int .i64 now, .int .i64 0, .bool false, .int .u64 ch, cand, .slice none 0 0, .bool false, .bool false, .int .i64 0] 77

/-- The txn's constants once the new lease m is there. -/
def TxOf (T : Nat) (now L : Int) (mems0 : Nat → Prop) (E0 : Nat → Int × Int) (m : Nat) : Tx :=
  { T := T, now := now, cur := m, mems := fun b => mems0 b ∨ b = m, E := fun b => if b = m then (L + 1, now) else E0 b }

/-- The next epoch is taken, the lease's record is laid, and it is stored among the members. -/
theorem Pre.install {K : Cx} {T : Nat} {now L : Int} {N : Nat} {mems0 G : Nat → Prop} {E0 : Nat → Int × Int} {V w2 Z : World} (h : Pre K T now L N mems0 G E0 V) (hR2 : RecAt K (L + 1) w2) (hk2 : ∀ b, b ≠ K.c → w2.heap[b]? = V.heap[b]?) (hs2 : w2.heap.size = V.heap.size)
    {a : Option Addr} {n cp sb : Nat} {S : Nat → ByteArray} (hS : StrsRow V a sb n S) {ch : Int} (hZ : Z.heap = (w2.alloc (memObj K.nm (L + 1) now ch (.slice a n cp))).heap) :
    ∃ w4, (Instr.mapUpdate 49 (.map (some K.M)) (.string K.nm) (.pointer (some ⟨w2.heap.size, 0, none⟩))).run Tryd.prog Z = .ok () w4 ∧ Inv K (TxOf T now L mems0 E0 w2.heap.size) G 0 (L + 1) N true w4 ∧
      MemRec w2.heap.size K.nm (L + 1) now 0 false ch (.slice a n cp) false false 0 w4 ∧ StrsRow w4 a sb n S ∧ RepAny K w4 ∧ OnlyAt K.M Z w4 := by
  have hzs : Z.heap.size = V.heap.size + 1 := by rw [hZ]; simp [hs2]
  have hzk : ∀ b, b < V.heap.size → b ≠ K.c → Z.heap[b]? = V.heap[b]? := fun b hb hc => by
    rw [hZ, Go.Deep.blk_alloc_lt _ _ _ (by omega)]
    exact hk2 b hc
  have hzm : Z.heap[w2.heap.size]? = some (memObj K.nm (L + 1) now ch (.slice a n cp)) := by rw [hZ]; exact Go.Deep.blk_alloc_new _ _
  have hclt : K.c < w2.heap.size := lt_of_heap hR2
  have hzc : RecAt K (L + 1) Z := by
    unfold RecAt
    rw [hZ, Go.Deep.blk_alloc_lt _ _ _ hclt]
    exact hR2
  have hMc : K.M ≠ K.c := by
    obtain ⟨es, ck, e, _⟩ := h.mapM
    rintro e'
    rw [e', h.rec_] at e
    simp at e
  have hMlt : K.M < V.heap.size := by obtain ⟨es, ck, e, _⟩ := h.mapM; exact lt_of_heap e
  have hzM : MemsAny K Z := by
    obtain ⟨es, ck, e, h2⟩ := h.mapM
    exact ⟨es, ck, (hzk _ hMlt hMc).trans e, h2⟩
  obtain ⟨w4, hrun, hM4, ho⟩ := hzM.store h.nm w2.heap.size
  have h4m : w4.heap[w2.heap.size]? = some (memObj K.nm (L + 1) now ch (.slice a n cp)) := (ho.block _ (by omega)).trans hzm
  have hcell : ∀ (b : Nat) (cs : Array Value) (t : TypeId) (f : Nat × Nat), V.heap[b]? = some (.cells cs t f) → b ≠ K.c → w4.heap[b]? = V.heap[b]? := fun b cs t f e hc => by
    rw [ho.block b (fun e' => by obtain ⟨es, ck, e2, _⟩ := h.mapM; rw [e', e2] at e; simp at e), hzk b (lt_of_heap e) hc]
  have hmap : ∀ (b : Nat) (es : Array MapEntry) (ck : Nat), V.heap[b]? = some (.map es ck) → b ≠ K.M → w4.heap[b]? = V.heap[b]? := fun b es ck e hb => by
    rw [ho.block b hb, hzk b (lt_of_heap e) (fun e' => by rw [e', h.rec_] at e; simp at e)]
  have hstr : ∀ (b : Nat) (cs : Array Value), V.heap[b]? = some (.cells cs 9 (0, 0)) → w4.heap[b]? = V.heap[b]? := fun b cs e => hcell b cs _ _ e (ne_of_types e h.rec_ (by decide))
  have hS4 := hS.kept hstr
  refine ⟨w4, hrun, ⟨?_, h.nm, h.ne, h.baseT, h.basec, h.baseM, h.baseR, ?_, h.baseG, ?_, (ho.block _ (Ne.symm hMc)).trans hzc, hM4, ?_, Or.inr rfl, ?_, ?_⟩, h4m, hS4, ?_, ho⟩
  · have := h.base; rw [ho.size]; omega
  · rintro m (hm | rfl)
    · exact h.basem m hm
    · have := h.base; omega
  · refine h.txn.kept (fun b _ q => ?_)
    rcases q with rfl | ⟨cs, q⟩
    · obtain ⟨cs, e⟩ := h.txn.blk
      exact hcell _ _ _ _ e (ne_of_types e h.rec_ (by decide))
    · exact hcell _ _ _ _ q (ne_of_types q h.rec_ (by decide))
  · obtain ⟨es, ck, e, h2⟩ := h.mapR
    exact ⟨es, ck, (hmap _ _ _ e (Ne.symm h.ne)).trans e, h2⟩
  · rintro m (hm | rfl)
    · obtain ⟨ch', a', n', cp', sb', S', ut, jd, en, h1, h2, h3⟩ := h.old m hm
      have hne : m ≠ w2.heap.size := by have := lt_of_heap h1; omega
      refine ⟨ch', a', n', cp', sb', S', ut, jd, en, ?_, h2.kept hstr, Or.inr ?_, fun _ e => absurd e hne⟩
      · show MemRec m K.nm (if m = w2.heap.size then (L + 1, now) else E0 m).1 (if m = w2.heap.size then (L + 1, now) else E0 m).2 0 false ch' _ ut jd en w4
        rw [if_neg hne]
        exact (hcell _ _ _ _ h1 (ne_of_types h1 h.rec_ (by decide))).trans h1
      · show stateOf K.l K.d (if m = w2.heap.size then (L + 1, now) else E0 m).2 0 now = 2 → jd = true
        rw [if_neg hne]
        exact h3
    · refine ⟨ch, a, n, cp, sb, S, false, false, 0, ?_, hS4, Or.inl rfl, fun _ _ => rfl⟩
      show MemRec w2.heap.size K.nm (if w2.heap.size = w2.heap.size then (L + 1, now) else E0 _).1 (if w2.heap.size = w2.heap.size then (L + 1, now) else E0 _).2 0 false ch _ false false 0 w4
      rw [if_pos rfl]
      exact h4m
  · intro b hb
    obtain ⟨x, e, c, u, h1, h2⟩ := h.rol b hb
    exact ⟨x, e, c, u, (hcell _ _ _ _ h1 (ne_of_types h1 h.rec_ (by decide))).trans h1, orMap id (fun ⟨m, hm, e⟩ => ⟨m, Or.inl hm, e⟩) h2⟩
  · obtain ⟨es, ck, e, h2⟩ := h.mapP
    exact ⟨es, ck, (hmap _ _ _ e h.neP.1).trans e, h2⟩

/-! ## The answer's grant goes into the txn's result -/
def setRes (w : World) (T : Nat) (nm : ByteArray) (ep ms : Int) (gR gH : Value) (ca : Int) : World :=
  ((((((w.setCell ⟨T, 4, none⟩ (.string nm)).setCell ⟨T, 5, none⟩ (.int .i64 ep)).setCell ⟨T, 6, none⟩ (.int .i64 ms)).setCell ⟨T, 7, none⟩ gR).setCell ⟨T, 8, none⟩ gH).setCell ⟨T, 9, none⟩ (.string { data := #[] })).setCell ⟨T, 10, none⟩ (.int .u64 ca)

theorem onlyAt_set {w : World} {T i : Nat} {v : Value} : OnlyAt T w (w.setCell ⟨T, i, none⟩ v) := ⟨rfl, rfl, rfl, by simp [World.setCell], fun _ h => set_other h⟩
theorem OnlyAt.trans {b : Nat} {w w' w'' : World} (h : OnlyAt b w w') (k : OnlyAt b w' w'') : OnlyAt b w w'' :=
  ⟨k.os.trans h.os, k.tape.trans h.tape, k.output.trans h.output, k.size.trans h.size, fun b' hb => (k.block b' hb).trans (h.block b' hb)⟩

theorem Inv.setRes {K : Cx} {X : Tx} {G : Nat → Prop} {ge L : Int} {N : Nat} {q : Bool} {w : World} (h : Inv K X G ge L N q w) (nm : ByteArray) (ep ms : Int) (gR gH : Value) (ca : Int) :
    Inv K X G ep L N q (setRes w X.T nm ep ms gR gH ca) ∧ OnlyAt X.T w (setRes w X.T nm ep ms gR gH ca) := by
  have hk : OnlyAt X.T w (Qxb6615073aDoor.setRes w X.T nm ep ms gR gH ca) :=
    (((((onlyAt_set.trans onlyAt_set).trans onlyAt_set).trans onlyAt_set).trans onlyAt_set).trans onlyAt_set).trans onlyAt_set
  refine ⟨?_, hk⟩
  obtain ⟨csT, hT⟩ := h.txn.blk
  refine h.step (Y := (· = X.T)) (q' := q) (fun a => Or.inl a) (fun b e => Or.inl e) hk.fr (Nat.le_refl _) ?_ ((hk.block _ (ne_of_types h.rec_ hT (by decide))).trans h.rec_) (fun m hm e => ?_) (fun b hg e => ?_)
  · obtain ⟨v, n, xs, gm, gl, gr, gh, gk, c, x11, x12, x13, x14, hb, ho, hn⟩ := h.txn
    have b1 : (w.setCell ⟨X.T, 4, none⟩ (.string nm)).heap[X.T]? = some (.cells #[ptr K.c, .int .i64 X.now, v, .nilIface, .string nm, .int .i64 ge, gl, gr, gh, gk, c, x11, x12, x13, x14] 67 (0, 0)) := heap_set hb 4 _
    have b2 : ((w.setCell ⟨X.T, 4, none⟩ (.string nm)).setCell ⟨X.T, 5, none⟩ (.int .i64 ep)).heap[X.T]? = some (.cells #[ptr K.c, .int .i64 X.now, v, .nilIface, .string nm, .int .i64 ep, gl, gr, gh, gk, c, x11, x12, x13, x14] 67 (0, 0)) := heap_set b1 5 _
    have b3 : (((w.setCell ⟨X.T, 4, none⟩ (.string nm)).setCell ⟨X.T, 5, none⟩ (.int .i64 ep)).setCell ⟨X.T, 6, none⟩ (.int .i64 ms)).heap[X.T]? = some (.cells #[ptr K.c, .int .i64 X.now, v, .nilIface, .string nm, .int .i64 ep, .int .i64 ms, gr, gh, gk, c, x11, x12, x13, x14] 67 (0, 0)) := heap_set b2 6 _
    have b4 : ((((w.setCell ⟨X.T, 4, none⟩ (.string nm)).setCell ⟨X.T, 5, none⟩ (.int .i64 ep)).setCell ⟨X.T, 6, none⟩ (.int .i64 ms)).setCell ⟨X.T, 7, none⟩ gR).heap[X.T]? = some (.cells #[ptr K.c, .int .i64 X.now, v, .nilIface, .string nm, .int .i64 ep, .int .i64 ms, gR, gh, gk, c, x11, x12, x13, x14] 67 (0, 0)) := heap_set b3 7 _
    have b5 : (((((w.setCell ⟨X.T, 4, none⟩ (.string nm)).setCell ⟨X.T, 5, none⟩ (.int .i64 ep)).setCell ⟨X.T, 6, none⟩ (.int .i64 ms)).setCell ⟨X.T, 7, none⟩ gR).setCell ⟨X.T, 8, none⟩ gH).heap[X.T]? = some (.cells #[ptr K.c, .int .i64 X.now, v, .nilIface, .string nm, .int .i64 ep, .int .i64 ms, gR, gH, gk, c, x11, x12, x13, x14] 67 (0, 0)) := heap_set b4 8 _
    have b6 : ((((((w.setCell ⟨X.T, 4, none⟩ (.string nm)).setCell ⟨X.T, 5, none⟩ (.int .i64 ep)).setCell ⟨X.T, 6, none⟩ (.int .i64 ms)).setCell ⟨X.T, 7, none⟩ gR).setCell ⟨X.T, 8, none⟩ gH).setCell ⟨X.T, 9, none⟩ (.string { data := #[] })).heap[X.T]? = some (.cells #[ptr K.c, .int .i64 X.now, v, .nilIface, .string nm, .int .i64 ep, .int .i64 ms, gR, gH, .string { data := #[] }, c, x11, x12, x13, x14] 67 (0, 0)) := heap_set b5 9 _
    have b7 : (((((((w.setCell ⟨X.T, 4, none⟩ (.string nm)).setCell ⟨X.T, 5, none⟩ (.int .i64 ep)).setCell ⟨X.T, 6, none⟩ (.int .i64 ms)).setCell ⟨X.T, 7, none⟩ gR).setCell ⟨X.T, 8, none⟩ gH).setCell ⟨X.T, 9, none⟩ (.string { data := #[] })).setCell ⟨X.T, 10, none⟩ (.int .u64 ca)).heap[X.T]? = some (.cells #[ptr K.c, .int .i64 X.now, v, .nilIface, .string nm, .int .i64 ep, .int .i64 ms, gR, gH, .string { data := #[] }, .int .u64 ca, x11, x12, x13, x14] 67 (0, 0)) := heap_set b6 10 _
    refine ⟨v, n, xs, .string nm, .int .i64 ms, gR, gH, .string { data := #[] }, .int .u64 ca, x11, x12, x13, x14, b7, ⟨ho.1, ?_⟩, hn⟩
    rcases ho.2 with h2 | ⟨g, cap, cur, h1, h2, h3, h4⟩
    · exact Or.inl h2
    · exact Or.inr ⟨g, cap, cur, h1, h2, (hk.block g (ne_of_types h3 hb (by decide))).trans h3, h4⟩
  · obtain ⟨cs, hb⟩ := (h.mem m hm).blk
    exact absurd e (ne_of_types hb hT (by decide))
  · obtain ⟨cs, hb⟩ := (h.rol b hg).blk
    exact absurd e (ne_of_types hb hT (by decide))

theorem Inv.txnCells {K : Cx} {X : Tx} {G : Nat → Prop} {ge L : Int} {N : Nat} {q : Bool} {w : World} (h : Inv K X G ge L N q w) : (∀ i, i < 15 → ∃ v, w.cell? ⟨X.T, i, none⟩ = some v) ∧ ∀ i, w.frozen? ⟨X.T, i, none⟩ = false := by
  obtain ⟨v, n, xs, gm, gl, gr, gh, gk, c, x11, x12, x13, x14, hb, ho, hn⟩ := h.txn
  refine ⟨fun i hi => ?_, fun i => frozen_of hb i⟩
  rw [cell_of hb]
  exact ⟨_, Array.getElem?_eq_getElem (by simpa using hi)⟩
end Go.Proofs.Qxb6615073aDoor
