import Derived.Test.Qxb6615073aDoorPrune
namespace Go.Proofs.Qxb6615073aDoor
open Go.RowKit
open Go.ChangeMaps (setBlock)

/-! ## The members' map is stored into: one entry is left, the new lease -/
/-- The members' map: nothing in it but the member's name. -/
def MemsAny (K : Cx) (w : World) : Prop :=
  ∃ es ck, w.heap[K.M]? = some (.map es ck) ∧ Go.WideElems.Fit (H := Unit) Tryd.prog 9 anyR es ck ∧ es.size < 1000 ∧ ∀ x ∈ es.toList, x.key = .string K.nm

theorem MembersAt.any {K : Cx} {cur : Nat} {w : World} (h : MembersAt K cur w) : MemsAny K w := by
  obtain ⟨born, ck, hb, F⟩ := h
  exact ⟨_, ck, hb, F, by simp, fun x hx => by simp at hx; rw [hx]⟩

/-- What a store into a map leaves of the other blocks. -/
structure OnlyAt (b : Nat) (w w' : World) : Prop where
  os : w'.os = w.os
  tape : w'.tape = w.tape
  output : w'.output = w.output
  size : w'.heap.size = w.heap.size
  block : ∀ b', b' ≠ b → w'.heap[b']? = w.heap[b']?
theorem OnlyAt.fr {b B : Nat} {w w' : World} (h : OnlyAt b w w') : Fr B (· = b) w w' := ⟨h.os, h.tape, h.output, by rw [h.size]; exact Nat.le_refl _, fun b' _ hy _ => h.block b' hy⟩
theorem onlyAt_setBlock (w : World) (b : Nat) (o : Obj) : OnlyAt b w (setBlock w b o) := ⟨rfl, rfl, rfl, by simp [setBlock], fun _ h => blk_setBlock h⟩

theorem MemsAny.store {K : Cx} {w : World} (h : MemsAny K w) (hn : K.nm.size ≤ maxLen) (m : Nat) :
    ∃ w2, (Instr.mapUpdate 49 (.map (some K.M)) (.string K.nm) (.pointer (some ⟨m, 0, none⟩))).run Tryd.prog w = .ok () w2 ∧ MembersAt K m w2 ∧ OnlyAt K.M w w2 := by
  obtain ⟨es, ck, hb, F, hsz, hkey⟩ := h
  obtain ⟨es', ck', hrun, F', hrd, _, _, hwho⟩ := Go.Maps.fit_store (R' := anyR) (val := .pointer (some ⟨m, 0, none⟩)) law9 Tryd.underlying49 hb F (by unfold maxLen; omega) (fun _ _ _ _ e => e) (keyS hn) rfl
  have hall : ∀ x ∈ es'.toList, x.key = .string K.nm ∧ x.val = ptr m := fun x hx => by
    rcases hwho x hx with ⟨h1, h2⟩ | h1
    · exact absurd (hkey x h1) h2
    · exact h1
  have hlen : 1 ≤ es'.toList.length := by
    have := congrArg List.length hrd
    simp only [ChangeMaps.putKey, length_insert, length_sorted, List.length_map] at this
    omega
  obtain ⟨x, rfl⟩ : ∃ x, es' = #[x] := by
    obtain ⟨l⟩ := es'
    match l, hlen, hall, F'.stamped.2.2 with
    | [x], _, _, _ => exact ⟨x, rfl⟩
    | x :: y :: r, _, hall, hnd =>
      exfalso
      have e1 := (hall x (by simp)).1
      have e2 := (hall y (by simp)).1
      simp [e1, e2] at hnd
  obtain ⟨k1, v1, b1⟩ := x
  obtain ⟨e1, e2⟩ := hall ⟨k1, v1, b1⟩ (by simp)
  simp only at e1 e2
  subst e1 e2
  exact ⟨_, hrun, ⟨b1, ck', blk_setBlock_same (lt_of_heap hb), F'⟩, onlyAt_setBlock _ _ _⟩

theorem MemsAny.look_empty {K : Cx} {w : World} (hb : w.heap[K.M]? = some (.map #[] 0)) (hn : K.nm.size ≤ maxLen) :
    (Instr.lookup 49 (.map (some K.M)) (.string K.nm) true).run Tryd.prog w = .ok (.tuple #[.pointer none, .bool false]) w := by
  rcases Go.Maps.fit_look (H := Unit) (R := anyR) true law9 Tryd.underlying49 (zero71 w) hb ⟨by simp, MapKept.stamped_empty 0, by simp⟩ (keyS hn) with ⟨h1, _⟩ | ⟨e0, _, h1, _⟩
  · exact h1
  · simp at h1

/-! ## The map of replaced leases -/
theorem law2 : Go.Maps.Keyed Tryd.prog 2 := Go.Maps.int_keyed Tryd.underlying2
def RepAny (K : Cx) (w : World) : Prop := ∃ es ck, w.heap[K.P]? = some (.map es ck) ∧ Go.WideElems.Fit (H := Unit) Tryd.prog 2 anyR es ck ∧ es.size < 1000
/-- The lease at epoch e is among the replaced ones. -/
def RepAt (K : Cx) (e : Int) (w : World) : Prop := ∃ es ck, w.heap[K.P]? = some (.map es ck) ∧ Go.WideElems.Fit (H := Unit) Tryd.prog 2 anyR es ck ∧ ∃ x ∈ es.toList, x.key = .int .i64 e

theorem RepAny.store {K : Cx} {w : World} (h : RepAny K w) {e : Int} (he : (Lit.int .i64 e).wf = true) (v : Value) :
    ∃ w2, (Instr.mapUpdate 51 (.map (some K.P)) (.int .i64 e) v).run Tryd.prog w = .ok () w2 ∧ RepAt K e w2 ∧ OnlyAt K.P w w2 := by
  obtain ⟨es, ck, hb, F, hsz⟩ := h
  have hkey := Go.Maps.keyOf_int_mk Tryd.underlying2 he
  obtain ⟨es', ck', hrun, F', hrd, _, _, hwho⟩ := Go.Maps.fit_store (R' := anyR) (val := v) law2 Tryd.underlying51 hb F (by unfold maxLen; omega) (fun _ _ _ _ e => e) hkey rfl
  have hb' : (setBlock w K.P (.map es' ck')).heap[K.P]? = some (.map es' ck') := blk_setBlock_same (lt_of_heap hb)
  refine ⟨_, hrun, ⟨es', ck', hb', F', ?_⟩, onlyAt_setBlock _ _ _⟩
  have hm : (Lit.int .i64 e, DataW.nil) ∈ (es'.toList.map (Go.WideElems.rg (H := Unit) Tryd.prog 2 anyR)).foldr DataW.insert [] := by
    rw [hrd]
    show _ ∈ DataW.insert _ _
    have : ∀ (p : Lit × DataW Unit) (l : List (Lit × DataW Unit)), p ∈ DataW.insert p l := fun p l => by
      induction l with
      | nil => simp [DataW.insert]
      | cons y r ih => unfold DataW.insert; split <;> simp [ih]
    exact this _ _
  obtain ⟨x, hx, hxe⟩ := List.mem_map.1 (mem_sorted.1 hm)
  obtain ⟨y, hy⟩ := F'.reads x hx
  have h1 := Go.WideElems.rd_key hy
  rw [Go.WideElems.rg_of hy] at hxe
  rw [hxe] at h1
  exact ⟨x, hx, law2.inj h1 hkey⟩

theorem RepAt.look {K : Cx} {e : Int} {w : World} (h : RepAt K e w) (he : (Lit.int .i64 e).wf = true) : ∃ v, (Instr.lookup 51 (.map (some K.P)) (.int .i64 e) true).run Tryd.prog w = .ok (.tuple #[v, .bool true]) w := by
  obtain ⟨es, ck, hb, F, x, hx, hk⟩ := h
  rcases Go.Maps.fit_look true law2 Tryd.underlying51 (zero71 w) hb F (Go.Maps.keyOf_int_mk Tryd.underlying2 he) with ⟨_, h2, _⟩ | ⟨e0, y, _, _, h3, _⟩
  · exact absurd hk (h2 x hx)
  · exact ⟨e0.val, h3⟩
theorem RepAt.kept {K : Cx} {e : Int} {w w' : World} (h : RepAt K e w) (hk : w'.heap[K.P]? = w.heap[K.P]?) : RepAt K e w' := by
  obtain ⟨es, ck, hb, h2⟩ := h
  exact ⟨es, ck, hk.trans hb, h2⟩
theorem RepAny.kept {K : Cx} {w w' : World} (h : RepAny K w) (hk : w'.heap[K.P]? = w.heap[K.P]?) : RepAny K w' := by
  obtain ⟨es, ck, hb, h2⟩ := h
  exact ⟨es, ck, hk.trans hb, h2⟩

/-! ## Making the records and a txn -/
set_option maxRecDepth 100000 in
theorem newRecords_any (l d L C : Int) (w : World) : Calls Tryd.prog 7 #[.int .i64 l, .int .i64 d, .int .i64 L, .int .u64 C] w fun e w' =>
    e = .returned (ptr (w.heap.size + 3)) ∧ w' = (((w.alloc (.map #[] 0)).alloc (.map #[] 0)).alloc (.map #[] 0)).alloc (.cells #[.int .i64 l, .int .i64 d, .int .i64 0, .int .i64 0, .int .i64 0, .int .i64 0, .map (some w.heap.size), .map (some (w.heap.size + 1)), .map (some (w.heap.size + 2)), .int .i64 L, .int .u64 C] 55) := by
  have hmm := @run_makeMap Tryd.prog
  go_enter Tryd.func7, Tryd.ntmps7
  go_wp2
  go_ret
  exact ⟨rfl, rfl⟩

def txnObj (c : Nat) (now : Int) : Obj := .cells #[ptr c, .int .i64 now, .slice none 0 0, .nilIface, .string { data := #[] }, .int .i64 0, .int .i64 0, .map none, .map none, .string { data := #[] }, .int .u64 0, .slice none 0 0, .bool false, .pointer none, .pointer none] 67

set_option maxRecDepth 100000 in
theorem newTxn_any (c : Nat) (now : Int) (w : World) : Calls Tryd.prog 8 #[ptr c, .int .i64 now] w fun e w' => e = .returned (ptr w.heap.size) ∧ w' = w.alloc (txnObj c now) := by
  unfold ptr txnObj ptr
  go_enter Tryd.func8, Tryd.ntmps8
  go_wp2
  go_ret
  exact ⟨rfl, rfl⟩
end Go.Proofs.Qxb6615073aDoor
