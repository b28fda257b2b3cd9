import Derived.Test.Qxb6615073aDoorSettle
namespace Go.Proofs.Qxb6615073aDoor
open Go.RowKit
open Go.ChangeMaps (setBlock)

theorem zero105 (w : World) : (zeroValue 105).run Tryd.prog w = .ok (.pointer none) w := by kernel_rfl

section
variable {K : Cx} {X : Tx} {G : Nat → Prop} {ge L : Int} {N : Nat} {q : Bool} {w : World}

theorem blk_setBlock {w : World} {r b : Nat} {o : Obj} (h : b ≠ r) : (setBlock w r o).heap[b]? = w.heap[b]? := by
  simp only [setBlock]
  rw [Array.getElem?_setIfInBounds_ne (Ne.symm h)]
theorem blk_setBlock_same {w : World} {r : Nat} {o : Obj} (h : r < w.heap.size) : (setBlock w r o).heap[r]? = some o := by simp [setBlock, h]

/-- A role more is known. -/
theorem Inv.addRole (h : Inv K X G ge L N q w) {rb : Nat} (hro : RolAt X.mems rb w) (hB : K.B ≤ rb) : Inv K X (fun b => G b ∨ b = rb) ge L N q w := by
  refine ⟨h.base, h.nm, h.ne, h.baseT, h.basec, h.baseM, h.baseR, h.basem, fun b e => e.elim (h.baseG b) (fun e => by subst e; exact hB), h.txn, h.rec_, h.mapM, ?_, h.curIn, h.mem, fun b e => e.elim (h.rol b) (fun e => by subst e; exact hro)⟩
  obtain ⟨es, ck, h1, h2, h3, h4⟩ := h.mapR
  exact ⟨es, ck, h1, h2, h3, fun x hx => let ⟨b, hb, hg⟩ := h4 x hx; ⟨b, hb, Or.inl hg⟩⟩

/-- The roles' map has turned. -/
theorem Inv.setRoles (h : Inv K X G ge L N q w) {es' : Array MapEntry} {ck' N' : Nat} (hN : N ≤ N') (F : Go.WideElems.Fit (H := Unit) Tryd.prog 9 anyR es' ck') (hs : es'.size ≤ N') (hx : ∀ x ∈ es'.toList, ∃ b, x.val = ptr b ∧ G b) :
    Inv K X G ge L N' q (setBlock w K.R (.map es' ck')) := by
  obtain ⟨es0, ck0, hR0, _⟩ := h.mapR
  have hk : ∀ b, b ≠ K.R → (setBlock w K.R (.map es' ck')).heap[b]? = w.heap[b]? := fun b hb => blk_setBlock hb
  have hc : ∀ (b : Nat) (cs : Array Value) (t : TypeId) (f : Nat × Nat), w.heap[b]? = some (.cells cs t f) → (setBlock w K.R (.map es' ck')).heap[b]? = w.heap[b]? := fun b cs t f e => hk b (fun e' => by rw [e', hR0] at e; simp at e)
  refine ⟨by simpa [setBlock] using h.base, h.nm, h.ne, h.baseT, h.basec, h.baseM, h.baseR, h.basem, h.baseG, ?_, (hc _ _ _ _ h.rec_).trans h.rec_, h.mapM.kept (hk _ h.ne), ⟨es', ck', blk_setBlock_same (lt_of_heap hR0), F, hs, hx⟩, h.curIn, ?_, ?_⟩
  · refine (h.txn.kept (fun b _ q => ?_)).mono hN
    rcases q with rfl | ⟨cs, q⟩
    · obtain ⟨cs, e⟩ := h.txn.blk
      exact hc _ _ _ _ e
    · exact hc _ _ _ _ q
  · intro m hm
    obtain ⟨ch, a, n, cp, sb, S, ut, jd, en, h1, h2, h3⟩ := h.mem m hm
    exact ⟨ch, a, n, cp, sb, S, ut, jd, en, (hc _ _ _ _ h1).trans h1, h2.kept (fun b cs q => hc _ _ _ _ q), h3⟩
  · intro b hb
    obtain ⟨x, e, ch, u, h1, h2⟩ := h.rol b hb
    exact ⟨x, e, ch, u, (hc _ _ _ _ h1).trans h1, h2⟩

theorem keyS {s : ByteArray} (hs : s.size ≤ maxLen) : keyOf Tryd.prog 9 (.string s) = some (.string s.data.toList) := Go.WideMaps.keyOf_string_mk Tryd.underlying9 hs

/-- The look-up of a role's name: not there, or a known role. -/
theorem Inv.lookRole (h : Inv K X G ge L N q w) {s : ByteArray} (hs : s.size ≤ maxLen) :
    (Instr.lookup 50 (.map (some K.R)) (.string s) true).run Tryd.prog w = .ok (.tuple #[.pointer none, .bool false]) w ∨
    ∃ b, G b ∧ (Instr.lookup 50 (.map (some K.R)) (.string s) true).run Tryd.prog w = .ok (.tuple #[ptr b, .bool true]) w := by
  obtain ⟨es, ck, hb, F, _, hx⟩ := h.mapR
  rcases Go.Maps.fit_look true law9 Tryd.underlying50 (zero105 w) hb F (keyS hs) with ⟨h1, _⟩ | ⟨e0, y, h1, _, h3, _⟩
  · exact Or.inl h1
  · obtain ⟨b, hv, hg⟩ := hx e0 h1
    rw [hv] at h3
    exact Or.inr ⟨b, hg, h3⟩

def roleObj : Obj := .cells #[.pointer none, .int .i64 0, .int .u64 0, .int .i64 0, .pointer none] 108

/-- A new role, and its entry. -/
theorem Inv.newRole (h : Inv K X G ge L N q w) {s : ByteArray} (hs : s.size ≤ maxLen) (hN : N < 1000000000) :
    ∃ w2, (Instr.mapUpdate 50 (.map (some K.R)) (.string s) (.pointer (some ⟨w.heap.size, 0, none⟩))).run Tryd.prog (w.alloc roleObj) = .ok () w2 ∧
      Inv K X (fun b => G b ∨ b = w.heap.size) ge L (N + 1) q w2 ∧ Fr K.B (· = K.R) w w2 ∧ w2.heap[w.heap.size]? = some roleObj := by
  have hal : Below w.heap.size w (w.alloc roleObj) := (Below.refl _ _).alloc (Nat.le_refl _) _
  have h1 := h.below hal
  have hro : RolAt X.mems w.heap.size (w.alloc roleObj) := ⟨.pointer none, 0, 0, 0, Go.Deep.blk_alloc_new _ _, Or.inl rfl⟩
  have h2 := h1.addRole hro h.base
  obtain ⟨es, ck, hb, F, hsz, hx⟩ := h2.mapR
  obtain ⟨es', ck', hrun, F', hrd, _, _, hwho⟩ := Go.Maps.fit_store (R' := anyR) (val := .pointer (some ⟨w.heap.size, 0, none⟩)) law9 Tryd.underlying50 hb F (by unfold maxLen; omega) (fun _ _ _ _ e => e) (keyS hs) rfl
  have hsz' : es'.size ≤ N + 1 := by
    have := congrArg List.length hrd
    simp only [ChangeMaps.putKey, length_insert, length_sorted, List.length_map, Array.length_toList] at this
    have h5 := List.length_filter_le (Go.ChangeMaps.notKey (Lit.string s.data.toList)) (List.foldr DataW.insert [] (List.map (Go.WideElems.rg (H := Unit) Tryd.prog 9 anyR) es.toList))
    rw [length_sorted, List.length_map] at h5
    have h6 : es.toList.length = es.size := by simp
    omega
  refine ⟨_, hrun, h2.setRoles (Nat.le_succ _) F' hsz' (fun x hx' => ?_), ?_, ?_⟩
  · rcases hwho x hx' with ⟨h3, _⟩ | ⟨_, h3⟩
    · exact hx x h3
    · exact ⟨w.heap.size, h3, Or.inr rfl⟩
  · have hR : K.R < w.heap.size := by obtain ⟨_, _, e, _⟩ := h.mapR; exact lt_of_heap e
    exact ⟨rfl, rfl, rfl, by simp [setBlock], fun b hb hy _ => by rw [blk_setBlock hy, Go.Deep.blk_alloc_lt _ _ _ hb]⟩
  · rw [blk_setBlock (fun e => by have : K.R < w.heap.size := by { obtain ⟨_, _, e, _⟩ := h.mapR; exact lt_of_heap e }; omega)]
    exact Go.Deep.blk_alloc_new _ _

/-- A block that the state does not speak of has turned: a map of the answer's own, or the grant (type 60). -/
theorem Inv.off (h : Inv K X G ge L N q w) {w' : World} (hs : w.heap.size ≤ w'.heap.size) (hc : ∀ (b : Nat) (cs : Array Value) (t : TypeId) (f : Nat × Nat), w.heap[b]? = some (.cells cs t f) → t ≠ 60 → w'.heap[b]? = w.heap[b]?)
    (hM : w'.heap[K.M]? = w.heap[K.M]?) (hR : w'.heap[K.R]? = w.heap[K.R]?) : Inv K X G ge L N q w' := by
  refine ⟨Nat.le_trans h.base hs, h.nm, h.ne, h.baseT, h.basec, h.baseM, h.baseR, h.basem, h.baseG, ?_, (hc _ _ _ _ h.rec_ (by decide)).trans h.rec_, h.mapM.kept hM, ?_, h.curIn, ?_, ?_⟩
  · refine h.txn.kept (fun b _ q => ?_)
    rcases q with rfl | ⟨cs, q⟩
    · obtain ⟨cs, e⟩ := h.txn.blk
      exact hc _ _ _ _ e (by decide)
    · exact hc _ _ _ _ q (by decide)
  · obtain ⟨es, ck, hb, F, hs, hx⟩ := h.mapR
    exact ⟨es, ck, hR.trans hb, F, hs, hx⟩
  · intro m hm
    obtain ⟨ch, a, n, cp, sb, S, ut, jd, en, h1, h2, h3⟩ := h.mem m hm
    exact ⟨ch, a, n, cp, sb, S, ut, jd, en, (hc _ _ _ _ h1 (by decide)).trans h1, h2.kept (fun b cs q => hc _ _ _ _ q (by decide)), h3⟩
  · intro b hb
    obtain ⟨x, e, ch, u, h1, h2⟩ := h.rol b hb
    exact ⟨x, e, ch, u, (hc _ _ _ _ h1 (by decide)).trans h1, h2⟩
end

/-! ## The answer's own maps and its grant -/
def MapOK (b n : Nat) (w : World) : Prop := ∃ es ck, w.heap[b]? = some (.map es ck) ∧ Go.WideElems.Fit (H := Unit) Tryd.prog 9 anyR es ck ∧ es.size ≤ n

theorem MapOK.kept {b n : Nat} {w w' : World} (h : MapOK b n w) (e : w'.heap[b]? = w.heap[b]?) : MapOK b n w' := by
  obtain ⟨es, ck, h1, h2⟩ := h
  exact ⟨es, ck, e.trans h1, h2⟩
theorem MapOK.mono {b n n' : Nat} {w : World} (h : MapOK b n w) (hn : n ≤ n') : MapOK b n' w := by
  obtain ⟨es, ck, h1, h2, h3⟩ := h
  exact ⟨es, ck, h1, h2, Nat.le_trans h3 hn⟩
theorem MapOK.lt {b n : Nat} {w : World} (h : MapOK b n w) : b < w.heap.size := by
  obtain ⟨es, ck, h1, _⟩ := h
  exact lt_of_heap h1
theorem MapOK.made (w : World) : MapOK w.heap.size 0 (w.alloc (.map #[] 0)) :=
  ⟨#[], 0, Go.Deep.blk_alloc_new _ _, ⟨by simp, MapKept.stamped_empty 0, by simp⟩, Nat.le_refl _⟩

theorem MapOK.store {b n : Nat} {w : World} (h : MapOK b n w) (hn : n < 1000000000) {t e : TypeId} (ht : Tryd.prog.underlying t = some (.map 9 e)) {s : ByteArray} (hs : s.size ≤ maxLen) (v : Value) :
    ∃ w2, (Instr.mapUpdate t (.map (some b)) (.string s) v).run Tryd.prog w = .ok () w2 ∧ MapOK b (n + 1) w2 ∧ w2.heap.size = w.heap.size ∧ w2.os = w.os ∧ w2.tape = w.tape ∧ w2.output = w.output ∧ ∀ b', b' ≠ b → w2.heap[b']? = w.heap[b']? := by
  have hlt := h.lt
  obtain ⟨es, ck, hb, F, hsz⟩ := h
  obtain ⟨es', ck', hrun, F', hrd, _, _, hwho⟩ := Go.Maps.fit_store (R' := anyR) (val := v) law9 ht hb F (by unfold maxLen; omega) (fun _ _ _ _ e => e) (keyS hs) rfl
  refine ⟨_, hrun, ⟨es', ck', blk_setBlock_same hlt, F', ?_⟩, by simp [setBlock], rfl, rfl, rfl, fun b' hb' => blk_setBlock hb'⟩
  have := congrArg List.length hrd
  simp only [ChangeMaps.putKey, length_insert, length_sorted, List.length_map, Array.length_toList] at this
  have h5 := List.length_filter_le (Go.ChangeMaps.notKey (Lit.string s.data.toList)) (List.foldr DataW.insert [] (List.map (Go.WideElems.rg (H := Unit) Tryd.prog 9 anyR) es.toList))
  rw [length_sorted, List.length_map] at h5
  have h6 : es.toList.length = es.size := by simp
  omega

def grantVal (nm : ByteArray) (ep ms : Int) (gR gH : Value) : Value := .agg #[.string nm, .int .i64 ep, .int .i64 ms, gR, gH, .string { data := #[] }]

def AnsPost (K : Cx) (X : Tx) (G : Nat → Prop) (ge L : Int) (N n : Nat) (w : World) (e : Ending) (w' : World) : Prop :=
  ∃ (ms : Int) (gR gH : Option Nat) (ca L' : Int) (G' : Nat → Prop), e = .returned (.tuple #[grantVal K.nm (X.E X.cur).1 ms (.map gR) (.map gH), .int .u64 ca]) ∧ L ≤ L' ∧ L' ≤ L + n ∧ (∀ b, G b → G' b) ∧ (∀ b, G' b → G b ∨ w.heap.size ≤ b) ∧
    Inv K X G' ge L' (N + 6 * n) true w' ∧ Fr K.B (fun b => Touch K X G b ∨ b = K.R) w w'

/-- The grant, stored into its block. -/
def setGrant (W : World) (gb : Nat) (nm : ByteArray) (ep ms : Int) (gR gH : Value) : World :=
  (((((W.setCell ⟨gb, 0, none⟩ (.string nm)).setCell ⟨gb, 1, none⟩ (.int .i64 ep)).setCell ⟨gb, 2, none⟩ (.int .i64 ms)).setCell ⟨gb, 3, none⟩ gR).setCell ⟨gb, 4, none⟩ gH).setCell ⟨gb, 5, none⟩ (.string { data := #[] })

theorem setGrant_facts {K : Cx} {X : Tx} {G : Nat → Prop} {ge L : Int} {N : Nat} {q : Bool} {W : World} (h : Inv K X G ge L N q W) {gb : Nat} {x0 x1 x2 x3 x4 x5 : Value} (hb : W.heap[gb]? = some (.cells #[x0, x1, x2, x3, x4, x5] 60 (0, 0))) (nm : ByteArray) (ep ms : Int) (gR gH : Value) :
    Inv K X G ge L N q (setGrant W gb nm ep ms gR gH) ∧ (setGrant W gb nm ep ms gR gH).heap[gb]? = some (.cells #[.string nm, .int .i64 ep, .int .i64 ms, gR, gH, .string { data := #[] }] 60 (0, 0)) ∧ (setGrant W gb nm ep ms gR gH).heap.size = W.heap.size ∧
      (∀ b, b ≠ gb → (setGrant W gb nm ep ms gR gH).heap[b]? = W.heap[b]?) ∧ ∀ B, Fr B (· = gb) W (setGrant W gb nm ep ms gR gH) := by
  have hk : ∀ b, b ≠ gb → (setGrant W gb nm ep ms gR gH).heap[b]? = W.heap[b]? := fun b hb => by
    unfold setGrant
    rw [set_other hb, set_other hb, set_other hb, set_other hb, set_other hb, set_other hb]
  have hsz : (setGrant W gb nm ep ms gR gH).heap.size = W.heap.size := by unfold setGrant; simp [World.setCell]
  obtain ⟨born, ck, hm, _⟩ := h.mapM
  obtain ⟨es, ck', hr, _⟩ := h.mapR
  refine ⟨h.off (by omega) (fun b cs t f e ht => hk b (fun e' => ?_)) (hk _ (fun e' => ?_)) (hk _ (fun e' => ?_)), ?_, hsz, hk, fun B => ?_⟩
  · rw [e', hb] at e; simp at e; exact ht e.2.1.symm
  · rw [e', hb] at hm; simp at hm
  · rw [e', hb] at hr; simp at hr
  · exact heap_set (heap_set (heap_set (heap_set (heap_set (heap_set hb 0 _) 1 _) 2 _) 3 _) 4 _) 5 _
  · exact (((((fr_set.trans fr_set (fun _ y => y) (fun _ _ y => y)).trans fr_set (fun _ y => y) (fun _ _ y => y)).trans fr_set (fun _ y => y) (fun _ _ y => y)).trans fr_set (fun _ y => y) (fun _ _ y => y)).trans fr_set (fun _ y => y) (fun _ _ y => y))

set_option maxRecDepth 100000 in
set_option maxHeartbeats 2000000 in
theorem answer_none {K : Cx} {X : Tx} {G : Nat → Prop} {ge L : Int} {N : Nat} {w : World} (h : Inv K X G ge L N true w) {a : Option Addr} {cp : Nat} (m6 : w.cell? ⟨X.cur, 6, none⟩ = some (.slice a 0 cp)) :
    Calls Tryd.prog 27 #[ptr X.T, ptr X.cur] w (AnsPost K X G ge L N 0 w) := by
  have M6 : Hid (w.cell? ⟨X.cur, 6, none⟩ = some (.slice a 0 cp)) := m6
  have H : Hid (Inv K X G ge L N true w) := h
  clear h m6
  unfold ptr
  go_enter Tryd.func27, Tryd.ntmps27
  go_wp2
  obtain ⟨W, hW⟩ : ∃ W, W = w.alloc (.cells #[.string { data := #[] }, .int .i64 0, .int .i64 0, .map none, .map none, .string { data := #[] }] 60) := ⟨_, rfl⟩
  rw [← hW]
  have HW : Hid (Below w.heap.size w W ∧ W.heap[w.heap.size]? = some (.cells #[.string { data := #[] }, .int .i64 0, .int .i64 0, .map none, .map none, .string { data := #[] }] 60)) := by
    rw [hW]; exact ⟨(Below.refl _ _).alloc (Nat.le_refl _) _, Go.Deep.blk_alloc_new _ _⟩
  have ZW : Hid (Inv K X G ge L N true W) := H.out.below HW.out.1
  obtain ⟨ch, a', n', cp', ut, m0, m1, m5, mx, m8, g8⟩ := ZW.out.memCells ZW.out.curIn
  clear mx
  have m6 : W.cell? ⟨X.cur, 6, none⟩ = some (.slice a 0 cp) := cell_same (HW.out.1.block _ (lt_of_cell M6.out)) M6.out
  have t0 : W.cell? ⟨X.T, 0, none⟩ = some (.pointer (some ⟨K.c, 0, none⟩)) := ZW.out.txn.c0
  have c0 := ZW.out.rec_.c0
  have gc0 : W.cell? ⟨w.heap.size, 0, none⟩ = some (.string { data := #[] }) := by rw [cell_of HW.out.2]; rfl
  have gc1 : W.cell? ⟨w.heap.size, 1, none⟩ = some (.int .i64 0) := by rw [cell_of HW.out.2]; rfl
  have gc2 : W.cell? ⟨w.heap.size, 2, none⟩ = some (.int .i64 0) := by rw [cell_of HW.out.2]; rfl
  have gc3 : W.cell? ⟨w.heap.size, 3, none⟩ = some (.map none) := by rw [cell_of HW.out.2]; rfl
  have gc4 : W.cell? ⟨w.heap.size, 4, none⟩ = some (.map none) := by rw [cell_of HW.out.2]; rfl
  have gc5 : W.cell? ⟨w.heap.size, 5, none⟩ = some (.string { data := #[] }) := by rw [cell_of HW.out.2]; rfl
  have gf0 := frozen_of HW.out.2 0
  have gf1 := frozen_of HW.out.2 1
  have gf2 := frozen_of HW.out.2 2
  have gf3 := frozen_of HW.out.2 3
  have gf4 := frozen_of HW.out.2 4
  have gf5 := frozen_of HW.out.2 5
  have n1 : X.cur ≠ w.heap.size := by have := lt_of_cell M6.out; omega
  have n2 := n1.symm
  clear hW
  refine wp_region_quiet_tail 19 (by kernel_rfl) (by kernel_rfl) ?_
  simp only [List.take_succ_cons, List.take_zero, List.drop_succ_cons, List.drop_zero]
  repeat (go_big_quiet_step (fail))
  go_big_quiet_want
  go_big_quiet_op
  refine ⟨_, ms_any _ _, ?_⟩
  go_big_quiet_on
  repeat (go_big_quiet_step (fail))
  refine wpQuiet_nil ?_
  go_wp2
  obtain ⟨D1, D2, D3, D4, D5⟩ := setGrant_facts ZW.out HW.out.2 K.nm (X.E X.cur).1 (wrap64 (K.l.tdiv 1000000)) (.map none) (.map none)
  obtain ⟨V, hV⟩ : ∃ V, V = setGrant W w.heap.size K.nm (X.E X.cur).1 (wrap64 (K.l.tdiv 1000000)) (.map none) (.map none) := ⟨_, rfl⟩
  rw [show (((((W.setCell ⟨w.heap.size, 0, none⟩ (.string K.nm)).setCell ⟨w.heap.size, 1, none⟩ (.int .i64 (X.E X.cur).1)).setCell ⟨w.heap.size, 2, none⟩ (.int .i64 (wrap64 (K.l.tdiv 1000000)))).setCell ⟨w.heap.size, 3, none⟩ (.map none)).setCell ⟨w.heap.size, 4, none⟩ (.map none)).setCell ⟨w.heap.size, 5, none⟩ (.string { data := #[] }) = V from hV.symm]
  rw [← hV] at D1 D2 D3 D4 D5
  clear hV m0 m1 m5 m6 m8 g8 gc0 gc1 gc2 gc3 gc4 gc5 gf0 gf1 gf2 gf3 gf4 gf5
  obtain ⟨ch, a', n', cp', ut, m0, m1, m5, mx, m8, g8⟩ := D1.memCells D1.curIn
  have gc0 : V.cell? ⟨w.heap.size, 0, none⟩ = some (.string K.nm) := by rw [cell_of D2]; rfl
  have gc1 : V.cell? ⟨w.heap.size, 1, none⟩ = some (.int .i64 (X.E X.cur).1) := by rw [cell_of D2]; rfl
  have gc2 : V.cell? ⟨w.heap.size, 2, none⟩ = some (.int .i64 (wrap64 (K.l.tdiv 1000000))) := by rw [cell_of D2]; rfl
  have gc3 : V.cell? ⟨w.heap.size, 3, none⟩ = some (.map none) := by rw [cell_of D2]; rfl
  have gc4 : V.cell? ⟨w.heap.size, 4, none⟩ = some (.map none) := by rw [cell_of D2]; rfl
  have gc5 : V.cell? ⟨w.heap.size, 5, none⟩ = some (.string { data := #[] }) := by rw [cell_of D2]; rfl
  have gf0 := frozen_of D2 0
  have gf1 := frozen_of D2 1
  have gf2 := frozen_of D2 2
  have gf3 := frozen_of D2 3
  have gf4 := frozen_of D2 4
  have gf5 := frozen_of D2 5
  have DD : Hid (Inv K X G ge L N true V ∧ V.heap[w.heap.size]? = some (.cells #[.string K.nm, .int .i64 (X.E X.cur).1, .int .i64 (wrap64 (K.l.tdiv 1000000)), .map none, .map none, .string { data := #[] }] 60 (0, 0)) ∧ ∀ B, Fr B (· = w.heap.size) W V) := ⟨D1, D2, D5⟩
  clear mx D1 D2 D3 D4 D5
  go_region
  go_wp2
  obtain ⟨E1, E2, E3, E4, E5⟩ := setGrant_facts DD.out.1 DD.out.2.1 K.nm (X.E X.cur).1 (wrap64 (K.l.tdiv 1000000)) (.map none) (.map none)
  obtain ⟨V2, hV2⟩ : ∃ V2, V2 = setGrant V w.heap.size K.nm (X.E X.cur).1 (wrap64 (K.l.tdiv 1000000)) (.map none) (.map none) := ⟨_, rfl⟩
  rw [show (((((V.setCell ⟨w.heap.size, 0, none⟩ (.string K.nm)).setCell ⟨w.heap.size, 1, none⟩ (.int .i64 (X.E X.cur).1)).setCell ⟨w.heap.size, 2, none⟩ (.int .i64 (wrap64 (K.l.tdiv 1000000)))).setCell ⟨w.heap.size, 3, none⟩ (.map none)).setCell ⟨w.heap.size, 4, none⟩ (.map none)).setCell ⟨w.heap.size, 5, none⟩ (.string { data := #[] }) = V2 from hV2.symm]
  rw [← hV2] at E1 E2 E3 E4 E5
  clear hV2
  have hc0 : V2.cell? ⟨w.heap.size, 0, none⟩ = some (.string K.nm) := by rw [cell_of E2]; rfl
  have hc1 : V2.cell? ⟨w.heap.size, 1, none⟩ = some (.int .i64 (X.E X.cur).1) := by rw [cell_of E2]; rfl
  have hc2 : V2.cell? ⟨w.heap.size, 2, none⟩ = some (.int .i64 (wrap64 (K.l.tdiv 1000000))) := by rw [cell_of E2]; rfl
  have hc3 : V2.cell? ⟨w.heap.size, 3, none⟩ = some (.map none) := by rw [cell_of E2]; rfl
  have hc4 : V2.cell? ⟨w.heap.size, 4, none⟩ = some (.map none) := by rw [cell_of E2]; rfl
  have hc5 : V2.cell? ⟨w.heap.size, 5, none⟩ = some (.string { data := #[] }) := by rw [cell_of E2]; rfl
  refine bodyPost_ret (v := .tuple #[grantVal K.nm (X.E X.cur).1 (wrap64 (K.l.tdiv 1000000)) (.map none) (.map none), .int .u64 ch]) (by simp [results, Tryd.results27, go_sem, hc0, hc1, hc2, hc3, hc4, hc5, grantVal]) rfl ?_
  have hF : Fr K.B (fun b => Touch K X G b ∨ b = K.R) w V2 := ((Fr.of_below (Y := fun b => Touch K X G b ∨ b = K.R) HW.out.1).trans (DD.out.2.2 K.B) (fun _ y => y) (fun b hb y => by omega)).trans (E5 K.B) (fun _ y => y) (fun b hb y => by omega)
  exact ⟨_, _, _, ch, L, G, rfl, Int.le_refl _, by omega, fun _ y => y, fun _ y => Or.inl y, E1.drew.drew, ⟨hF.os, hF.tape, hF.output, hF.size, hF.block⟩⟩
end Go.Proofs.Qxb6615073aDoor
