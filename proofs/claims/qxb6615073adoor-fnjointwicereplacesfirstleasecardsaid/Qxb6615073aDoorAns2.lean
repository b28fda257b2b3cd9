import Derived.Test.Qxb6615073aDoorAns
import Derived.Deep.DeepCutAuto
namespace Go.Proofs.Qxb6615073aDoor
open Go.RowKit
open Go.ChangeMaps (setBlock)

section
variable {K : Cx} {X : Tx} {G : Nat → Prop} {ge L : Int} {N : Nat} {q : Bool} {w : World}

theorem Inv.not_touch (h : Inv K X G ge L N q w) {b : Nat} {cs : Array Value} {t : TypeId} {f : Nat × Nat} (hb : w.heap[b]? = some (.cells cs t f)) (ht : t = 60 ∨ t = 9) : ¬ Touch K X G b := fun y => by
  obtain ⟨cs', t', e, ht'⟩ := h.touch_type y
  rw [hb] at e
  simp at e
  rcases ht with rfl | rfl <;> rcases ht' with rfl | rfl | rfl | rfl <;> simp at e
theorem Inv.not_touch_map (h : Inv K X G ge L N q w) {b : Nat} {es : Array MapEntry} {ck : Nat} (hb : w.heap[b]? = some (.map es ck)) : ¬ Touch K X G b := fun y => by
  obtain ⟨cs', t', e, ht'⟩ := h.touch_type y
  rw [hb] at e
  simp at e
theorem Inv.Rmap (h : Inv K X G ge L N q w) : ∃ es ck, w.heap[K.R]? = some (.map es ck) := by
  obtain ⟨es, ck, e, _⟩ := h.mapR
  exact ⟨es, ck, e⟩
theorem Inv.Mmap (h : Inv K X G ge L N q w) : ∃ es ck, w.heap[K.M]? = some (.map es ck) := by
  obtain ⟨es, ck, e, _⟩ := h.mapM
  exact ⟨_, ck, e⟩
end

/-- The grant's block while the roles are gone through. -/
def GAt (K : Cx) (X : Tx) (gb gR gH : Nat) (w : World) : Prop :=
  w.heap[gb]? = some (.cells #[.string K.nm, .int .i64 (X.E X.cur).1, .int .i64 (wrap64 (K.l.tdiv 1000000)), .map (some gR), .map (some gH), .string { data := #[] }] 60 (0, 0))

/-- Behind k rounds. -/
def AnsAt (K : Cx) (X : Tx) (G : Nat → Prop) (ge L : Int) (N gb gR gH : Nat) (w : World) (k : Nat) (c : Value) (wr : World) : Prop :=
  ∃ G' L' x, c = .int .u64 x ∧ (∀ b, G b → G' b) ∧ (∀ b, G' b → G b ∨ w.heap.size ≤ b) ∧ L ≤ L' ∧ L' ≤ L + k ∧ Inv K X G' ge L' (N + 6 * k) false wr ∧ GAt K X gb gR gH wr ∧ MapOK gR (3 * k) wr ∧ MapOK gH (3 * k) wr ∧ Fr K.B (fun b => Touch K X G b ∨ b = K.R) w wr

/-- A store into one of the answer's own maps. -/
theorem ownStore {K : Cx} {X : Tx} {G : Nat → Prop} {ge L : Int} {N : Nat} {q : Bool} {w w2 : World} {b : Nat} (h : Inv K X G ge L N q w) (hbM : b ≠ K.M) (hbR : b ≠ K.R) (hm : ∃ es ck, w.heap[b]? = some (.map es ck)) (hs : w2.heap.size = w.heap.size) (hk : ∀ b', b' ≠ b → w2.heap[b']? = w.heap[b']?) : Inv K X G ge L N q w2 := by
  obtain ⟨es, ck, hb⟩ := hm
  exact h.off (by omega) (fun b' cs t f e _ => hk b' (fun e' => by rw [e', hb] at e; simp at e)) (hk _ (Ne.symm hbM)) (hk _ (Ne.symm hbR))

/-- What is behind settle, in the answer's terms: the grant and its maps stand. -/
theorem settled_kept {K : Cx} {X : Tx} {G : Nat → Prop} {ge L : Int} {N : Nat} {q : Bool} {w w' : World} {gb gR gH k : Nat} (h : Inv K X G ge L N q w) (hg : GAt K X gb gR gH w) (hR : MapOK gR k w) (hH : MapOK gH k w) (hf : Fr K.B (Touch K X G) w w') : GAt K X gb gR gH w' ∧ MapOK gR k w' ∧ MapOK gH k w' := by
  refine ⟨hf.keeps hg (h.not_touch hg (Or.inl rfl)) (by decide), ?_, ?_⟩
  · obtain ⟨es, ck, e, F, hs⟩ := hR
    exact ⟨es, ck, hf.keepsMap e (h.not_touch_map e), F, hs⟩
  · obtain ⟨es, ck, e, F, hs⟩ := hH
    exact ⟨es, ck, hf.keepsMap e (h.not_touch_map e), F, hs⟩
theorem newrole_kept {K : Cx} {X : Tx} {w w' : World} {gb gR gH k : Nat} (hRm : ∃ es ck, w.heap[K.R]? = some (.map es ck)) (hg : GAt K X gb gR gH w) (hR : MapOK gR k w) (hH : MapOK gH k w) (n1 : gR ≠ K.R) (n2 : gH ≠ K.R) (hf : Fr K.B (· = K.R) w w') : GAt K X gb gR gH w' ∧ MapOK gR k w' ∧ MapOK gH k w' := by
  obtain ⟨es0, ck0, e0⟩ := hRm
  refine ⟨hf.keeps hg (fun y => by rw [GAt, y, e0] at hg; simp at hg) (by decide), ?_, ?_⟩
  · obtain ⟨es, ck, e, F, hs⟩ := hR
    exact ⟨es, ck, hf.keepsMap e n1, F, hs⟩
  · obtain ⟨es, ck, e, F, hs⟩ := hH
    exact ⟨es, ck, hf.keepsMap e n2, F, hs⟩

/-- Whether the holder is the member itself. -/
theorem eql_members {K : Cx} {X : Tx} {G : Nat → Prop} {ge L : Int} {N : Nat} {q : Bool} {w : World} (h : Inv K X G ge L N q w) {m : Nat} (hm : X.mems m) :
    (binOp .eql 71 (.pointer (some ⟨m, 0, none⟩)) (.pointer (some ⟨X.cur, 0, none⟩))).run Tryd.prog w = .ok (.bool (decide (m = X.cur))) w := by
  obtain ⟨i, hi, hsz⟩ := Option.map_eq_some_iff.1 Tryd.info77
  by_cases e : m = X.cur
  · rw [e, decide_eq_true rfl]
    exact run_eql_ptr_same w ⟨X.cur, 0, none⟩ Tryd.underlying71 hi
  · rw [decide_eq_false e]
    obtain ⟨c1, e1⟩ := (h.mem m hm).blk
    obtain ⟨c2, e2⟩ := (h.mem X.cur h.curIn).blk
    exact run_eql_ptr_other w Tryd.underlying71 hi (by rw [hsz]; decide) (fun q => e (congrArg Addr.block q)) e1 e2

theorem ans_start {K : Cx} {X : Tx} {G : Nat → Prop} {ge L : Int} {N : Nat} {w V U : World} {gb : Nat} (hi : Inv K X G ge L N true V)
    (hb : V.heap[gb]? = some (.cells #[.string K.nm, .int .i64 (X.E X.cur).1, .int .i64 (wrap64 (K.l.tdiv 1000000)), .map none, .map none, .string { data := #[] }] 60 (0, 0))) (hg : w.heap.size ≤ gb) (hf : Fr K.B (fun b => Touch K X G b ∨ b = K.R) w V)
    (hU : U = (((V.setCell ⟨gb, 3, none⟩ (.map (some V.heap.size))).setCell ⟨gb, 4, none⟩ (.map (some (V.heap.size + 1)))).alloc (.map #[] 0)).alloc (.map #[] 0)) (x : Int) :
    AnsAt K X G ge L N gb V.heap.size (V.heap.size + 1) w 0 (.int .u64 x) U ∧ U.heap.size = V.heap.size + 2 ∧ ∀ b, b < V.heap.size → b ≠ gb → U.heap[b]? = V.heap[b]? := by
  obtain ⟨V1, hV1⟩ : ∃ V1, V1 = (V.setCell ⟨gb, 3, none⟩ (.map (some V.heap.size))).setCell ⟨gb, 4, none⟩ (.map (some (V.heap.size + 1))) := ⟨_, rfl⟩
  rw [← hV1] at hU
  have hs1 : V1.heap.size = V.heap.size := by rw [hV1]; simp [World.setCell]
  have hk1 : ∀ b, b ≠ gb → V1.heap[b]? = V.heap[b]? := fun b hb => by rw [hV1, set_other hb, set_other hb]
  have hb1 := heap_set (heap_set hb 3 (.map (some V.heap.size))) 4 (.map (some (V.heap.size + 1)))
  rw [← hV1] at hb1
  obtain ⟨es, ck, eR⟩ := hi.Rmap
  obtain ⟨es', ck', eM⟩ := hi.Mmap
  have i1 : Inv K X G ge L N true V1 := hi.off (by omega) (fun b cs t f e ht => hk1 b (fun e' => by rw [e', hb] at e; simp at e; exact ht e.2.1.symm)) (hk1 _ (fun e' => by rw [e', hb] at eM; simp at eM)) (hk1 _ (fun e' => by rw [e', hb] at eR; simp at eR))
  have bl : Below V1.heap.size V1 U := by rw [hU]; exact ((Below.refl _ _).alloc (Nat.le_refl _) _).alloc (by simp) _
  have hsU : U.heap.size = V.heap.size + 2 := by rw [hU]; simp; omega
  have hgV := lt_of_heap hb
  refine ⟨⟨G, L, x, rfl, fun _ y => y, fun _ y => Or.inl y, Int.le_refl _, by omega, (i1.below bl).weaken, (bl.block gb (by omega)).trans hb1, ?_, ?_, ?_⟩, hsU, fun b hb hne => (bl.block b (by omega)).trans (hk1 b hne)⟩
  · have := (MapOK.made V1).kept (w' := U) (by rw [hU]; exact Go.Deep.blk_alloc_lt _ _ _ (by simp))
    rw [hs1] at this
    exact this
  · have := MapOK.made (V1.alloc (.map #[] 0))
    rw [← hU] at this
    simpa [hs1] using this
  · have f1 : Fr K.B (· = gb) V V1 := by rw [hV1]; exact fr_set.trans fr_set (fun _ y => y) (fun _ _ y => y)
    exact (hf.trans f1 (fun _ y => y) (fun b hb y => by omega)).trans (Fr.of_below (Y := fun _ => False) bl) (fun _ y => y) (fun _ _ y => y.elim)

/-- Behind settle, in round k, the role in question being r. -/
def Mid (K : Cx) (X : Tx) (G : Nat → Prop) (ge L : Int) (N gb gR gH : Nat) (w : World) (k r j : Nat) (w3 : World) : Prop :=
  ∃ G' L', (∀ b, G b → G' b) ∧ (∀ b, G' b → G b ∨ w.heap.size ≤ b) ∧ L ≤ L' ∧ L' ≤ L + (k + 1) ∧ Inv K X G' ge L' (N + 6 * (k + 1)) false w3 ∧ GAt K X gb gR gH w3 ∧ MapOK gR (3 * k + j) w3 ∧ MapOK gH (3 * k + j) w3 ∧ Fr K.B (fun b => Touch K X G b ∨ b = K.R) w w3 ∧ G' r

theorem Mid.ans {K : Cx} {X : Tx} {G : Nat → Prop} {ge L : Int} {N gb gR gH : Nat} {w : World} {k r j : Nat} {w3 : World} (h : Mid K X G ge L N gb gR gH w k r j w3) (hj : j ≤ 3) (x : Int) : AnsAt K X G ge L N gb gR gH w (k + 1) (.int .u64 x) w3 := by
  obtain ⟨G', L', h1, h2, h3, h4, h5, h6, h7, h8, h9, _⟩ := h
  exact ⟨G', L', x, rfl, h1, h2, h3, by omega, h5, h6, h7.mono (by omega), h8.mono (by omega), h9⟩

theorem mid_old {K : Cx} {X : Tx} {G : Nat → Prop} {ge L : Int} {N gb gR gH : Nat} {w wr w3 : World} {k r : Nat} {G' : Nat → Prop} {L' L3 : Int} (g1 : ∀ b, G b → G' b) (g2 : ∀ b, G' b → G b ∨ w.heap.size ≤ b) (g3 : L ≤ L') (g4 : L' ≤ L + k)
    (hinv : Inv K X G' ge L' (N + 6 * k) false wr) (hg : GAt K X gb gR gH wr) (hR : MapOK gR (3 * k) wr) (hH : MapOK gH (3 * k) wr) (hfr : Fr K.B (fun b => Touch K X G b ∨ b = K.R) w wr) (hr : G' r)
    (l1 : L' ≤ L3) (l2 : L3 ≤ L' + 1) (i3 : Inv K X G' ge L3 (N + 6 * k + 4) false w3) (f3 : Fr K.B (Touch K X G') wr w3) : Mid K X G ge L N gb gR gH w k r 0 w3 := by
  obtain ⟨k1, k2, k3⟩ := settled_kept hinv hg hR hH f3
  refine ⟨G', L3, g1, g2, by omega, by omega, i3.more (by omega), k1, k2, k3, hfr.trans f3 (fun _ y => y) (fun b hb y => ?_), hr⟩
  rcases y with y | y | y | y
  · exact Or.inl (Or.inl y)
  · exact Or.inl (Or.inr (Or.inl y))
  · exact Or.inl (Or.inr (Or.inr (Or.inl y)))
  · rcases g2 b y with y | y
    · exact Or.inl (Or.inr (Or.inr (Or.inr y)))
    · omega

theorem mid_new {K : Cx} {X : Tx} {G : Nat → Prop} {ge L : Int} {N gb gR gH : Nat} {w wr w2 w3 : World} {k : Nat} {G' : Nat → Prop} {L' L3 : Int} (g1 : ∀ b, G b → G' b) (g2 : ∀ b, G' b → G b ∨ w.heap.size ≤ b) (g3 : L ≤ L') (g4 : L' ≤ L + k)
    (hinv : Inv K X G' ge L' (N + 6 * k) false wr) (hg : GAt K X gb gR gH wr) (hR : MapOK gR (3 * k) wr) (hH : MapOK gH (3 * k) wr) (n1 : gR ≠ K.R) (n2 : gH ≠ K.R) (hfr : Fr K.B (fun b => Touch K X G b ∨ b = K.R) w wr)
    (i2 : Inv K X (fun b => G' b ∨ b = wr.heap.size) ge L' (N + 6 * k + 1) false w2) (f2 : Fr K.B (· = K.R) wr w2)
    (l1 : L' ≤ L3) (l2 : L3 ≤ L' + 1) (i3 : Inv K X (fun b => G' b ∨ b = wr.heap.size) ge L3 (N + 6 * k + 1 + 4) false w3) (f3 : Fr K.B (Touch K X (fun b => G' b ∨ b = wr.heap.size)) w2 w3) : Mid K X G ge L N gb gR gH w k wr.heap.size 0 w3 := by
  obtain ⟨j1, j2, j3⟩ := newrole_kept hinv.Rmap hg hR hH n1 n2 f2
  obtain ⟨k1, k2, k3⟩ := settled_kept i2 j1 j2 j3 f3
  have hsz := hfr.size
  refine ⟨_, L3, fun b y => Or.inl (g1 b y), fun b y => y.elim (g2 b) (fun y => Or.inr (by omega)), by omega, by omega, i3.more (by omega), k1, k2, k3, (hfr.trans f2 (fun _ y => y) (fun b _ y => Or.inr y)).trans f3 (fun _ y => y) (fun b hb y => ?_), Or.inr rfl⟩
  rcases y with y | y | y | y | y
  · exact Or.inl (Or.inl y)
  · exact Or.inl (Or.inr (Or.inl y))
  · exact Or.inl (Or.inr (Or.inr (Or.inl y)))
  · rcases g2 b y with y | y
    · exact Or.inl (Or.inr (Or.inr (Or.inr y)))
    · omega
  · omega

theorem Mid.drew {K : Cx} {X : Tx} {G : Nat → Prop} {ge L : Int} {N gb gR gH : Nat} {w : World} {k r j : Nat} {w3 : World} (h : Mid K X G ge L N gb gR gH w k r j w3) : Mid K X G ge L N gb gR gH w k r j w3.drew := by
  obtain ⟨G', L', h1, h2, h3, h4, h5, h6, h7, h8, h9, h10⟩ := h
  exact ⟨G', L', h1, h2, h3, h4, h5.drew, h6, h7, h8, h9.drewN 1, h10⟩

/-- What the rest of the round reads. -/
theorem Mid.cells {K : Cx} {X : Tx} {G : Nat → Prop} {ge L : Int} {N gb gR gH : Nat} {w : World} {k r j : Nat} {w3 : World} (h : Mid K X G ge L N gb gR gH w k r j w3) {m : Nat} (hm : X.mems m) :
    w3.cell? ⟨gb, 3, none⟩ = some (.map (some gR)) ∧ w3.cell? ⟨gb, 4, none⟩ = some (.map (some gH)) ∧ w3.cell? ⟨m, 0, none⟩ = some (.string K.nm) ∧ (∃ e c, w3.cell? ⟨r, 1, none⟩ = some (.int .i64 e) ∧ w3.cell? ⟨r, 2, none⟩ = some (.int .u64 c)) ∧
      (binOp .eql 71 (.pointer (some ⟨m, 0, none⟩)) (.pointer (some ⟨X.cur, 0, none⟩))).run Tryd.prog w3 = .ok (.bool (decide (m = X.cur))) w3 := by
  obtain ⟨G', L', h1, h2, h3, h4, h5, h6, h7, h8, h9, h10⟩ := h
  obtain ⟨ho, e, ch, u, r0, r1, r2, _⟩ := h5.rolCells h10
  obtain ⟨_, _, _, _, _, m0, _⟩ := h5.memCells hm
  exact ⟨by rw [cell_of h6]; rfl, by rw [cell_of h6]; rfl, m0, ⟨e, ch, r1, r2⟩, eql_members h5 hm⟩

/-- A store into one of the answer's maps; x: which. -/
theorem Mid.store {K : Cx} {X : Tx} {G : Nat → Prop} {ge L : Int} {N gb gR gH : Nat} {w : World} {k r j : Nat} {w3 : World} (h : Mid K X G ge L N gb gR gH w k r j w3) {b : Nat} (hb : b = gR ∨ b = gH) (hk : 3 * k + j < 1000000) (n1 : gR ≠ K.M ∧ gR ≠ K.R ∧ gH ≠ K.M ∧ gH ≠ K.R) (hw : w.heap.size ≤ gR ∧ w.heap.size ≤ gH)
    {t e : TypeId} (ht : Tryd.prog.underlying t = some (.map 9 e)) {s : ByteArray} (hs : s.size ≤ maxLen) (v : Value) :
    ∃ w4, (Instr.mapUpdate t (.map (some b)) (.string s) v).run Tryd.prog w3 = .ok () w4 ∧ Mid K X G ge L N gb gR gH w k r (j + 1) w4 ∧ ∀ x, x ≠ b → w4.heap[x]? = w3.heap[x]? := by
  obtain ⟨G', L', h1, h2, h3, h4, h5, h6, h7, h8, h9, h10⟩ := h
  have hmb : MapOK b (3 * k + j) w3 := by rcases hb with rfl | rfl <;> assumption
  obtain ⟨w4, hrun, hm4, hs4, ho, hta, hou, hk4⟩ := hmb.store (by omega) ht hs v
  refine ⟨w4, hrun, ⟨G', L', h1, h2, h3, h4, ?_, ?_, ?_, ?_, ?_, h10⟩, hk4⟩
  · obtain ⟨es, ck, e, _⟩ := hmb
    exact ownStore h5 (by rcases hb with rfl | rfl; exact n1.1; exact n1.2.2.1) (by rcases hb with rfl | rfl; exact n1.2.1; exact n1.2.2.2) ⟨es, ck, e⟩ hs4 hk4
  · obtain ⟨es, ck, e, _⟩ := hmb
    exact (hk4 gb (fun e' => by rw [GAt, e', e] at h6; simp at h6)).trans h6
  · by_cases e : gR = b
    · rw [e]; exact hm4
    · exact (h7.kept (hk4 _ e)).mono (Nat.le_succ _)
  · by_cases e : gH = b
    · rw [e]; exact hm4
    · exact (h8.kept (hk4 _ e)).mono (Nat.le_succ _)
  · exact h9.trans (Y2 := (· = b)) ⟨ho, hta, hou, by omega, fun b' _ hy _ => hk4 b' hy⟩ (fun _ y => y) (fun b' hb' y => by rcases hb with rfl | rfl <;> omega)

theorem AnsAt.drewN {K : Cx} {X : Tx} {G : Nat → Prop} {ge L : Int} {N gb gR gH : Nat} {w : World} {k : Nat} {c : Value} {wr : World} (h : AnsAt K X G ge L N gb gR gH w k c wr) (m : Nat) : AnsAt K X G ge L N gb gR gH w k c (wr.drewN m) := by
  obtain ⟨G', L', x, h1, h2, h3, h4, h5, h6, h7, h8, h9, h10⟩ := h
  exact ⟨G', L', x, h1, h2, h3, h4, h5, h6.drewN m, h7, h8, h9, h10.drewN m⟩

end Go.Proofs.Qxb6615073aDoor
