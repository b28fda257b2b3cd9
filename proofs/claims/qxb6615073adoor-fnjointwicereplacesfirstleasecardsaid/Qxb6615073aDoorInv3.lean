import Derived.Test.Qxb6615073aDoorState
namespace Go.Proofs.Qxb6615073aDoor
open Go.RowKit

/-! ## The whole state: the records, the txn, the members' leases, the roles -/

/-- A slice of strings in a row of its own (or of length 0). -/
def StrsRow (w : World) (a : Option Addr) (sb n : Nat) (S : Nat → ByteArray) : Prop :=
  (0 < n → a = some ⟨sb, 0, none⟩ ∧ w.rowIs sb 9 n (fun j => .string (S j))) ∧ (∀ j, j < n → (S j).size ≤ 9223372036854775807) ∧ n ≤ 32768

theorem StrsRow.in_ {w : World} {a : Option Addr} {sb n : Nat} {S : Nat → ByteArray} (h : StrsRow w a sb n S) : StrsIn w a sb 0 n S :=
  ⟨fun hn => (h.1 hn).1, fun j hj => by rw [Nat.zero_add]; exact (h.1 (by omega)).2.cell hj, h.2.1⟩

theorem StrsRow.kept {w w' : World} {a : Option Addr} {sb n : Nat} {S : Nat → ByteArray} (h : StrsRow w a sb n S) (hk : ∀ (b : Nat) (cs : Array Value), w.heap[b]? = some (.cells cs 9 (0, 0)) → w'.heap[b]? = w.heap[b]?) : StrsRow w' a sb n S :=
  ⟨fun hn => ⟨(h.1 hn).1, by
    obtain ⟨c, hb, h2⟩ := (h.1 hn).2
    exact ⟨c, (hk sb c hb).trans hb, h2⟩⟩, h.2⟩

/-- What is fixed through one txn: its block, its moment, the grant's epoch as yet, the member's current lease, the known leases, each lease's epoch and last answer. -/
structure Tx where
  T : Nat
  now : Int
  cur : Nat
  mems : Nat → Prop
  E : Nat → Int × Int

/-- A member's lease: never left, nothing pending; judged if it is fenced, unless it is the current one; q: the current one has been told of all its roles. -/
def MemAt (K : Cx) (X : Tx) (q : Bool) (m : Nat) (w : World) : Prop :=
  ∃ ch a n cp sb S ut jd en, MemRec m K.nm (X.E m).1 (X.E m).2 0 false ch (.slice a n cp) ut jd en w ∧ StrsRow w a sb n S ∧ (m = X.cur ∨ (stateOf K.l K.d (X.E m).2 0 X.now = 2 → jd = true)) ∧ (q = true → m = X.cur → ut = false)

/-- A role: held by a known lease or by none; no handover. -/
def RolAt (mems : Nat → Prop) (b : Nat) (w : World) : Prop :=
  ∃ h e ch u, w.heap[b]? = some (.cells #[h, .int .i64 e, .int .u64 ch, .int .i64 u, .pointer none] 108 (0, 0)) ∧ (h = .pointer none ∨ ∃ m, mems m ∧ h = ptr m)

/-- The roles' map: every entry leads to a role. -/
def RolesAt (K : Cx) (G : Nat → Prop) (N : Nat) (w : World) : Prop :=
  ∃ es ck, w.heap[K.R]? = some (.map es ck) ∧ Go.WideElems.Fit (H := Unit) Tryd.prog 9 anyR es ck ∧ es.size ≤ N ∧ ∀ x ∈ es.toList, ∃ b, x.val = ptr b ∧ G b

structure Inv (K : Cx) (X : Tx) (G : Nat → Prop) (ge L : Int) (N : Nat) (q : Bool) (w : World) : Prop where
  base : K.B ≤ w.heap.size
  nm : K.nm.size ≤ maxLen
  ne : K.M ≠ K.R
  baseT : K.B ≤ X.T
  basec : K.B ≤ K.c
  baseM : K.B ≤ K.M
  baseR : K.B ≤ K.R
  basem : ∀ m, X.mems m → K.B ≤ m
  baseG : ∀ b, G b → K.B ≤ b
  txn : TxnAt K X.T X.now ge N w
  rec_ : RecAt K L w
  mapM : MembersAt K X.cur w
  mapR : RolesAt K G N w
  curIn : X.mems X.cur
  mem : ∀ m, X.mems m → MemAt K X q m w
  rol : ∀ b, G b → RolAt X.mems b w

section
variable {K : Cx} {X : Tx} {G : Nat → Prop} {T : Nat} {now ge L : Int} {N : Nat} {mems : Nat → Prop} {q : Bool} {w : World}

theorem TxnAt.blk (h : TxnAt K T now ge N w) : ∃ cs, w.heap[T]? = some (.cells cs 67 (0, 0)) := by
  obtain ⟨v, n, xs, gm, gl, gr, gh, gk, ca, x11, x12, x13, x14, hb, _⟩ := h
  exact ⟨_, hb⟩
theorem MemAt.blk {m : Nat} (h : MemAt K X q m w) : ∃ cs, w.heap[m]? = some (.cells cs 77 (0, 0)) := by
  obtain ⟨ch, a, n, cp, sb, S, ut, jd, en, hm, _⟩ := h
  exact ⟨_, hm⟩
theorem RolAt.blk {b : Nat} (h : RolAt mems b w) : ∃ cs, w.heap[b]? = some (.cells cs 108 (0, 0)) := by
  obtain ⟨_, _, _, _, h, _⟩ := h
  exact ⟨_, h⟩
theorem lt_of_heap {b : Nat} {o : Obj} (h : w.heap[b]? = some o) : b < w.heap.size := (Array.getElem?_eq_some_iff.1 h).1

/-- What may be touched by settle, answer, prune: the txn, the records, members and roles. -/
def Touch (K : Cx) (X : Tx) (G : Nat → Prop) (b : Nat) : Prop := b = X.T ∨ b = K.c ∨ X.mems b ∨ G b

/-- Of the touched kinds none is a map or a row of strings. -/
theorem Inv.touch_type (h : Inv K X G ge L N q w) {b : Nat} (hb : Touch K X G b) : ∃ cs t, w.heap[b]? = some (.cells cs t (0, 0)) ∧ (t = 67 ∨ t = 55 ∨ t = 77 ∨ t = 108) := by
  rcases hb with rfl | rfl | hb | hb
  · obtain ⟨cs, e⟩ := h.txn.blk; exact ⟨cs, _, e, Or.inl rfl⟩
  · exact ⟨_, _, h.rec_, Or.inr (Or.inl rfl)⟩
  · obtain ⟨cs, e⟩ := (h.mem b hb).blk; exact ⟨cs, _, e, Or.inr (Or.inr (Or.inl rfl))⟩
  · obtain ⟨cs, e⟩ := (h.rol b hb).blk; exact ⟨cs, _, e, Or.inr (Or.inr (Or.inr rfl))⟩

/-- ONE STEP: what it turns is told; all else of the state stands. -/
theorem Inv.step (h : Inv K X G ge L N q w) {w' : World} {Y : Nat → Prop} {ge' L' : Int} {N' : Nat} {q' : Bool} (hq : q' = true → q = true ∨ Y X.cur) (hY : ∀ b, Y b → Touch K X G b) (hf : Fr K.B Y w w') (hN : N ≤ N')
    (hT : TxnAt K X.T X.now ge' N' w') (hR : RecAt K L' w') (hmem : ∀ m, X.mems m → Y m → MemAt K X q' m w') (hrol : ∀ b, G b → Y b → RolAt X.mems b w') : Inv K X G ge' L' N' q' w' := by
  have hstr : ∀ (b : Nat) (cs : Array Value), w.heap[b]? = some (.cells cs 9 (0, 0)) → w'.heap[b]? = w.heap[b]? := fun b cs hb => by
    rw [hb]
    refine hf.keeps hb (fun hy => ?_) (by decide)
    obtain ⟨cs', t, e, ht⟩ := h.touch_type (hY b hy)
    rw [hb] at e
    simp at e
    rcases ht with rfl | rfl | rfl | rfl <;> simp at e
  have hmap : ∀ (b : Nat) (es : Array MapEntry) (ck : Nat), w.heap[b]? = some (.map es ck) → w'.heap[b]? = some (.map es ck) := fun b es ck hb => hf.keepsMap hb (fun hy => by
    obtain ⟨cs', t, e, ht⟩ := h.touch_type (hY b hy)
    rw [hb] at e
    simp at e)
  refine ⟨Nat.le_trans h.base hf.size, h.nm, h.ne, h.baseT, h.basec, h.baseM, h.baseR, h.basem, h.baseG, hT, hR, ?_, ?_, h.curIn, ?_, ?_⟩
  · obtain ⟨born, ck, hb, F⟩ := h.mapM
    exact ⟨born, ck, hmap _ _ _ hb, F⟩
  · obtain ⟨es, ck, hb, F, hs, hx⟩ := h.mapR
    exact ⟨es, ck, hmap _ _ _ hb, F, Nat.le_trans hs hN, hx⟩
  · intro m hm
    by_cases hy : Y m
    · exact hmem m hm hy
    · obtain ⟨ch, a, n, cp, sb, S, ut, jd, en, h1, h2, h3, h4⟩ := h.mem m hm
      exact ⟨ch, a, n, cp, sb, S, ut, jd, en, hf.keeps h1 hy (by decide), h2.kept hstr, h3, fun a e => (hq a).elim (fun q => h4 q e) (fun q => absurd (e ▸ q) hy)⟩
  · intro b hb
    by_cases hy : Y b
    · exact hrol b hb hy
    · obtain ⟨x, e, ch, u, h1, h2⟩ := h.rol b hb
      exact ⟨x, e, ch, u, hf.keeps h1 hy (by decide), h2⟩

/-- Nothing tracked has turned (new blocks; an iterator's step). -/
theorem Inv.same (h : Inv K X G ge L N q w) {w' : World} (hs : w.heap.size ≤ w'.heap.size) (hk : ∀ b, b < w.heap.size → (∀ mp s sn st, w.heap[b]? ≠ some (.mapIter mp s sn st)) → w'.heap[b]? = w.heap[b]?) : Inv K X G ge L N q w' := by
  have hc : ∀ (b : Nat) (cs : Array Value) (t : TypeId) (f : Nat × Nat), w.heap[b]? = some (.cells cs t f) → w'.heap[b]? = w.heap[b]? := fun b cs t f e => hk b (lt_of_heap e) (fun _ _ _ _ q => by rw [e] at q; simp at q)
  have hm : ∀ (b : Nat) (es : Array MapEntry) (ck : Nat), w.heap[b]? = some (.map es ck) → w'.heap[b]? = w.heap[b]? := fun b es ck e => hk b (lt_of_heap e) (fun _ _ _ _ q => by rw [e] at q; simp at q)
  refine ⟨Nat.le_trans h.base hs, h.nm, h.ne, h.baseT, h.basec, h.baseM, h.baseR, h.basem, h.baseG, ?_, (hc _ _ _ _ h.rec_).trans h.rec_, ?_, ?_, h.curIn, ?_, ?_⟩
  · refine h.txn.kept (fun b _ q => ?_)
    rcases q with rfl | ⟨cs, q⟩
    · obtain ⟨cs, e⟩ := h.txn.blk
      exact hc _ _ _ _ e
    · exact hc _ _ _ _ q
  · obtain ⟨born, ck, hb, F⟩ := h.mapM
    exact ⟨born, ck, (hm _ _ _ hb).trans hb, F⟩
  · obtain ⟨es, ck, hb, F, hs, hx⟩ := h.mapR
    exact ⟨es, ck, (hm _ _ _ hb).trans hb, F, hs, hx⟩
  · intro m hm
    obtain ⟨ch, a, n, cp, sb, S, ut, jd, en, h1, h2, h3⟩ := h.mem m hm
    exact ⟨ch, a, n, cp, sb, S, ut, jd, en, (hc _ _ _ _ h1).trans h1, h2.kept (fun b cs q => hc _ _ _ _ q), h3⟩
  · intro b hb
    obtain ⟨x, e, ch, u, h1, h2⟩ := h.rol b hb
    exact ⟨x, e, ch, u, (hc _ _ _ _ h1).trans h1, h2⟩

theorem Inv.below (h : Inv K X G ge L N q w) {w' : World} (hb : Below w.heap.size w w') : Inv K X G ge L N q w' := h.same hb.size (fun b hlt _ => hb.block b hlt)
theorem Inv.drewN (h : Inv K X G ge L N q w) (n : Nat) : Inv K X G ge L N q (w.drewN n) := h.same (Nat.le_refl _) (fun _ _ _ => rfl)
theorem Inv.drew (h : Inv K X G ge L N q w) : Inv K X G ge L N q w.drew := h.same (Nat.le_refl _) (fun _ _ _ => rfl)

theorem Inv.emitted (h : Inv K X G ge L N q w) {w' : World} (hT : TxnAt K X.T X.now ge (N + 1) w') (hf : Fr K.B (· = X.T) w w') : Inv K X G ge L (N + 1) q w' := by
  obtain ⟨cs, hb⟩ := h.txn.blk
  refine h.step (q' := q) (fun a => Or.inl a) (fun b e => Or.inl e) hf (Nat.le_succ _) hT ((kept_emit h.txn hf).1 h.rec_) (fun m hm e => ?_) (fun b hg e => ?_)
  · obtain ⟨cs', hb'⟩ := (h.mem m hm).blk
    exact absurd e (ne_of_types hb' hb (by decide))
  · obtain ⟨cs', hb'⟩ := (h.rol b hg).blk
    exact absurd e (ne_of_types hb' hb (by decide))

theorem Inv.nexted (h : Inv K X G ge L N q w) {w' : World} (hR : RecAt K (L + 1) w') (hk : ∀ b, b ≠ K.c → w'.heap[b]? = w.heap[b]?) (hf : Fr K.B (· = K.c) w w') : Inv K X G ge (L + 1) N q w' := by
  refine h.step (q' := q) (fun a => Or.inl a) (fun b e => Or.inr (Or.inl e)) hf (Nat.le_refl _) (h.txn.kept (fun b _ q => hk b ?_)) hR (fun m hm e => ?_) (fun b hg e => ?_)
  · rcases q with rfl | ⟨cs, q⟩
    · obtain ⟨cs, e⟩ := h.txn.blk
      exact ne_of_types e h.rec_ (by decide)
    · exact ne_of_types q h.rec_ (by decide)
  · obtain ⟨cs', hb'⟩ := (h.mem m hm).blk
    exact absurd e (ne_of_types hb' h.rec_ (by decide))
  · obtain ⟨cs', hb'⟩ := (h.rol b hg).blk
    exact absurd e (ne_of_types hb' h.rec_ (by decide))

/-- A store into a member's record, of what the state does not speak of. -/
theorem Inv.memStore (h : Inv K X G ge L N q w) {w' : World} {m : Nat} {q' : Bool} (hq : q' = true → q = true ∨ m = X.cur) (hm : X.mems m) (hf : Fr K.B (· = m) w w') (hk : ∀ b, b ≠ m → w'.heap[b]? = w.heap[b]?) (hmem : MemAt K X q' m w') : Inv K X G ge L N q' w' := by
  obtain ⟨cs, hb⟩ := (h.mem m hm).blk
  refine h.step (Y := (· = m)) (q' := q') (fun a => orMap id (fun e => e.symm) (hq a)) (fun b e => by subst e; exact Or.inr (Or.inr (Or.inl hm))) hf (Nat.le_refl _) (h.txn.kept (fun b _ q => hk b ?_)) ((hk _ (ne_of_types h.rec_ hb (by decide))).trans h.rec_) (fun m' _ e => by subst e; exact hmem) (fun b hg e => ?_)
  · rcases q with rfl | ⟨cs', q⟩
    · obtain ⟨cs', e⟩ := h.txn.blk
      exact ne_of_types e hb (by decide)
    · exact ne_of_types q hb (by decide)
  · obtain ⟨cs', hb'⟩ := (h.rol b hg).blk
    exact absurd e (ne_of_types hb' hb (by decide))

theorem Inv.rolStore (h : Inv K X G ge L N q w) {w' : World} {r : Nat} (hr : G r) (hf : Fr K.B (· = r) w w') (hk : ∀ b, b ≠ r → w'.heap[b]? = w.heap[b]?) (hrol : RolAt X.mems r w') : Inv K X G ge L N q w' := by
  obtain ⟨cs, hb⟩ := (h.rol r hr).blk
  refine h.step (Y := (· = r)) (q' := q) (fun a => Or.inl a) (fun b e => by subst e; exact Or.inr (Or.inr (Or.inr hr))) hf (Nat.le_refl _) (h.txn.kept (fun b _ q => hk b ?_)) ((hk _ (ne_of_types h.rec_ hb (by decide))).trans h.rec_) (fun m' hm e => ?_) (fun b hg e => by subst e; exact hrol)
  · rcases q with rfl | ⟨cs', q⟩
    · obtain ⟨cs', e⟩ := h.txn.blk
      exact ne_of_types e hb (by decide)
    · exact ne_of_types q hb (by decide)
  · obtain ⟨cs', hb'⟩ := (h.mem m' hm).blk
    exact absurd e (ne_of_types hb' hb (by decide))
end
end Go.Proofs.Qxb6615073aDoor
