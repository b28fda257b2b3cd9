import Derived.Test.Qxb6615073aDoorTail
namespace Go.Proofs.Qxb6615073aDoor
open Go.RowKit

/-- What state leaves: the state itself; one event at most; the member judged if it is fenced. -/
def StatePost (K : Cx) (T m : Nat) (now ge ep la : Int) (nm : ByteArray) (ch : Int) (cand : Value) (ut jd : Bool) (N : Nat) (w : World) (e : Ending) (w' : World) : Prop :=
  e = .returned (.int .i64 (stateOf K.l K.d la 0 now)) ∧ TxnAt K T now ge (N + 1) w' ∧
    (∃ jd' en', MemRec m nm ep la 0 false ch cand ut jd' en' w' ∧ (stateOf K.l K.d la 0 now = 2 → jd' = true) ∧ (jd = true → jd' = true)) ∧ Fr K.B (fun b => b = T ∨ b = m) w w'

theorem stateS {T c m : Nat} {l d la now : Int} {ep fl : Int} {lf : Bool} {w w' : World} (t0 : w'.cell? ⟨T, 0, none⟩ = some (.pointer (some ⟨c, 0, none⟩))) (t1 : w'.cell? ⟨T, 1, none⟩ = some (.int .i64 now))
    (hc : w'.heap[c]? = w.heap[c]?) (hm : w'.heap[m]? = w.heap[m]?) (c0 : w.cell? ⟨c, 0, none⟩ = some (.int .i64 l)) (c1 : w.cell? ⟨c, 1, none⟩ = some (.int .i64 d))
    (m1 : w.cell? ⟨m, 1, none⟩ = some (.int .i64 ep)) (m2 : w.cell? ⟨m, 2, none⟩ = some (.int .i64 la)) (m3 : w.cell? ⟨m, 3, none⟩ = some (.int .i64 fl)) (m4 : w.cell? ⟨m, 4, none⟩ = some (.bool lf)) :
    w'.cell? ⟨T, 0, none⟩ = some (.pointer (some ⟨c, 0, none⟩)) ∧ w'.cell? ⟨T, 1, none⟩ = some (.int .i64 now) ∧ w'.cell? ⟨c, 0, none⟩ = some (.int .i64 l) ∧ w'.cell? ⟨c, 1, none⟩ = some (.int .i64 d) ∧ w'.cell? ⟨m, 1, none⟩ = some (.int .i64 ep) ∧ w'.cell? ⟨m, 2, none⟩ = some (.int .i64 la) ∧ w'.cell? ⟨m, 3, none⟩ = some (.int .i64 fl) ∧ w'.cell? ⟨m, 4, none⟩ = some (.bool lf) :=
  ⟨t0, t1, cell_same hc c0, cell_same hc c1, cell_same hm m1, cell_same hm m2, cell_same hm m3, cell_same hm m4⟩

set_option maxRecDepth 100000 in
set_option maxHeartbeats 1000000 in
/-- It is not due for a verdict: not fenced, or judged already. -/
theorem state_early (K : Cx) (T m : Nat) (now ge L ep la : Int) (nm : ByteArray) (ch : Int) (cand : Value) (ut jd : Bool) (en : Int) (N : Nat) (w : World)
    (hT : TxnAt K T now ge N w) (hR : RecAt K L w) (hm : MemRec m nm ep la 0 false ch cand ut jd en w) (hq : Hid (stateOf K.l K.d la 0 now = 2 → jd = true)) :
    Calls Tryd.prog 22 #[ptr T, ptr m] w (StatePost K T m now ge ep la nm ch cand ut jd N w) := by
  have t0 : w.cell? ⟨T, 0, none⟩ = some (.pointer (some ⟨K.c, 0, none⟩)) := hT.c0
  have t1 := hT.c1
  have c0 := hR.c0
  have c1 := hR.c1
  have m1 : w.cell? ⟨m, 1, none⟩ = some (.int .i64 ep) := by rw [cell_of hm]; rfl
  have m2 : w.cell? ⟨m, 2, none⟩ = some (.int .i64 la) := by rw [cell_of hm]; rfl
  have m3 : w.cell? ⟨m, 3, none⟩ = some (.int .i64 0) := by rw [cell_of hm]; rfl
  have m4 : w.cell? ⟨m, 4, none⟩ = some (.bool false) := by rw [cell_of hm]; rfl
  have m9 : w.cell? ⟨m, 9, none⟩ = some (.bool jd) := by rw [cell_of hm]; rfl
  have hTlt := lt_of_cell t0
  have hclt := lt_of_cell c0
  have hmlt : m < w.heap.size := lt_of_cell m1
  have HT : Hid (TxnAt K T now ge N w) := hT
  have HM : Hid (MemRec m nm ep la 0 false ch cand ut jd en w) := hm
  clear hT hR hm
  unfold ptr at *
  go_enter Tryd.func22, Tryd.ntmps22
  go_wp2_with fail
  go_region_held3 (fun w' => w'.cell? ⟨T, 0, none⟩ = some (.pointer (some ⟨K.c, 0, none⟩)) ∧ w'.cell? ⟨T, 1, none⟩ = some (.int .i64 now) ∧ w'.cell? ⟨K.c, 0, none⟩ = some (.int .i64 K.l) ∧ w'.cell? ⟨K.c, 1, none⟩ = some (.int .i64 K.d) ∧ w'.cell? ⟨m, 1, none⟩ = some (.int .i64 ep) ∧ w'.cell? ⟨m, 2, none⟩ = some (.int .i64 la) ∧ w'.cell? ⟨m, 3, none⟩ = some (.int .i64 0) ∧ w'.cell? ⟨m, 4, none⟩ = some (.bool false))
    (first | exact stateS t0 t1 rfl rfl c0 c1 m1 m2 m3 m4 | exact stateS (cell_same (hb.block T hTlt) t0) (cell_same (hb.block T hTlt) t1) (hb.block K.c hclt) (hb.block m hmlt) c0 c1 m1 m2 m3 m4)
    (first | (go_at_call 29; refine (stateOf_any _ _ _ _ _ _ _).mono ?_; rintro e w' ⟨rfl, hb⟩))
  have hb' := below_undrew hb
  have n9 : w'.cell? ⟨m, 9, none⟩ = some (.bool jd) := cell_same (hb.block m hmlt) m9
  generalize hs : stateOf K.l K.d la 0 now = s at *
  by_cases h2 : s = 2
  · subst h2
    have hj := hq.out rfl
    subst hj
    go_wp2
    go_ret
    exact ⟨ret_int hs.symm, (HT.out.below hb').mono (Nat.le_succ _), ⟨true, en, (hb'.block m hmlt).trans HM.out, fun _ => rfl, fun _ => rfl⟩, Fr.of_below hb'⟩
  · have h2' : (s != 2) = true := by rw [bne_iff_ne]; exact h2
    go_wp2
    go_ret
    exact ⟨ret_int hs.symm, (HT.out.below hb').mono (Nat.le_succ _), ⟨jd, en, (hb'.block m hmlt).trans HM.out, fun h => absurd (hs.symm.trans h) h2, fun h => h⟩, Fr.of_below hb'⟩

theorem Tryd.info77 : (Tryd.prog.info? 77).map (fun i => i.size) = some 11 := by kernel_rfl
theorem neq_same (m : Nat) (w : World) : (binOp .neq 71 (.pointer (some ⟨m, 0, none⟩)) (.pointer (some ⟨m, 0, none⟩))).run Tryd.prog w = .ok (.bool false) w := by
  obtain ⟨i, hi, _⟩ := Option.map_eq_some_iff.1 Tryd.info77
  have h : ∀ d : Nat, (Op.equalIn (d + 1) 71 (.pointer (some ⟨m, 0, none⟩)) (.pointer (some ⟨m, 0, none⟩))).run Tryd.prog w = .ok true w := fun d => by
    simp [Op.equalIn, run_underlying Tryd.underlying71, sizeOf, typeInfo, hi, run_sameAddr_same]
  simp only [binOp]
  simp [Op.equal, Op.maxDepth, h 9999]

/-! ## A map with one entry -/
def anyR : Value → Option (DataW Unit × List MemPlace) := fun _ => some (.nil, [])

/-- The members: one entry, the member's name, leading to cur. -/
def MembersAt (K : Cx) (cur : Nat) (w : World) : Prop :=
  ∃ born ck, w.heap[K.M]? = some (.map #[⟨.string K.nm, ptr cur, born⟩] ck) ∧ Go.WideElems.Fit (H := Unit) Tryd.prog 9 anyR #[⟨.string K.nm, ptr cur, born⟩] ck

theorem zero71 (w : World) : (zeroValue 71).run Tryd.prog w = .ok (.pointer none) w := by kernel_rfl
theorem law9 : Go.Maps.Keyed Tryd.prog 9 := Go.Maps.string_keyed Tryd.underlying9

theorem MembersAt.look {K : Cx} {cur : Nat} {w : World} (h : MembersAt K cur w) (hn : K.nm.size ≤ maxLen) (c : Bool) :
    (Instr.lookup 49 (.map (some K.M)) (.string K.nm) c).run Tryd.prog w = .ok (if c then .tuple #[ptr cur, .bool true] else ptr cur) w := by
  obtain ⟨born, ck, hb, F⟩ := h
  rcases Go.Maps.fit_look c law9 Tryd.underlying49 (zero71 w) hb F (Go.WideMaps.keyOf_string_mk Tryd.underlying9 hn) with ⟨_, h2, _⟩ | ⟨e0, y, h1, h2, h3, _⟩
  · exact absurd rfl (h2 ⟨.string K.nm, ptr cur, born⟩ (by simp))
  · have h1' : e0 = ⟨.string K.nm, ptr cur, born⟩ := by simpa using h1
    rw [h1'] at h3
    exact h3

theorem Fr.undrew {B : Nat} {Y : Nat → Prop} {w w' : World} (h : Fr B Y w.drew w') : Fr B Y w w' := ⟨h.os, h.tape, h.output, h.size, h.block⟩

theorem MembersAt.kept {K : Cx} {cur : Nat} {w w' : World} (h : MembersAt K cur w) (e : w'.heap[K.M]? = w.heap[K.M]?) : MembersAt K cur w' := by
  obtain ⟨born, ck, hb, F⟩ := h
  exact ⟨born, ck, e.trans hb, F⟩
theorem MembersAt.lt {K : Cx} {cur : Nat} {w : World} (h : MembersAt K cur w) : K.M < w.heap.size := by
  obtain ⟨born, ck, hb, F⟩ := h
  exact (Array.getElem?_eq_some_iff.1 hb).1
theorem MembersAt.ne {K : Cx} {cur b : Nat} {w : World} {cs : Array Value} {t : TypeId} {f : Nat × Nat} (h : MembersAt K cur w) (hb : w.heap[b]? = some (.cells cs t f)) : K.M ≠ b := by
  obtain ⟨born, ck, h, F⟩ := h
  rintro e
  rw [e, hb] at h
  simp at h

/-- The verdict's three stores. -/
def judgeW (w : World) (m : Nat) (now : Int) : World := ((w.setCell ⟨m, 9, none⟩ (.bool true)).setCell ⟨m, 10, none⟩ (.int .i64 now)).setCell ⟨m, 7, none⟩ (.slice none 0 0)
theorem judge_blk {w : World} {m b : Nat} {now : Int} (h : b ≠ m) : (judgeW w m now).heap[b]? = w.heap[b]? := by
  unfold judgeW
  rw [Go.Deep.blk_setCell_other _ _ _ _ h, Go.Deep.blk_setCell_other _ _ _ _ h, Go.Deep.blk_setCell_other _ _ _ _ h]
theorem judge_facts {K : Cx} {T m : Nat} {now ge L ep la : Int} {nm : ByteArray} {ch : Int} {cand : Value} {ut jd : Bool} {en : Int} {N : Nat} {w : World}
    (hT : TxnAt K T now ge N w) (hR : RecAt K L w) (hm : MemRec m nm ep la 0 false ch cand ut jd en w) (hM : MembersAt K m w) :
    TxnAt K T now ge N (judgeW w m now) ∧ RecAt K L (judgeW w m now) ∧ MemRec m nm ep la 0 false ch cand ut true now (judgeW w m now) ∧ MembersAt K m (judgeW w m now) ∧ Fr K.B (· = m) w (judgeW w m now) := by
  have hTm : m ≠ T := by
    obtain ⟨v, n, xs, gm, gl, gr, gh, gk, ca, x11, x12, x13, x14, hb, _⟩ := hT
    exact ne_of_types hm hb (by decide)
  refine ⟨hT.kept (fun b hb h => judge_blk ?_), (judge_blk (ne_of_types hR hm (by decide))).trans hR, ?_, hM.kept (judge_blk (hM.ne hm)), ?_⟩
  · rcases h with rfl | ⟨cs, h⟩
    · exact hTm.symm
    · exact ne_of_types h hm (by decide)
  · exact heap_set (heap_set (heap_set hm 9 (.bool true)) 10 (.int .i64 now)) 7 (.slice none 0 0)
  · exact (((Fr.refl K.B (· = m) w).setCell (a := ⟨m, 9, none⟩) (Or.inl rfl) _).setCell (a := ⟨m, 10, none⟩) (Or.inl rfl) _).setCell (a := ⟨m, 7, none⟩) (Or.inl rfl) _

theorem dueS {K : Cx} {T m : Nat} {now ge L ep la : Int} {ch : Int} {cand : Value} {ut jd : Bool} {en : Int} {N : Nat} {w : World}
    (hT : TxnAt K T now ge N w) (hR : RecAt K L w) (hm : MemRec m K.nm ep la 0 false ch cand ut jd en w) (hM : MembersAt K m w) (hn : K.nm.size ≤ maxLen) :
    w.cell? ⟨T, 0, none⟩ = some (.pointer (some ⟨K.c, 0, none⟩)) ∧ w.cell? ⟨T, 1, none⟩ = some (.int .i64 now) ∧ w.cell? ⟨K.c, 6, none⟩ = some (.map (some K.M)) ∧ w.cell? ⟨m, 0, none⟩ = some (.string K.nm) ∧ w.cell? ⟨m, 1, none⟩ = some (.int .i64 ep) ∧
      w.cell? ⟨m, 2, none⟩ = some (.int .i64 la) ∧ w.cell? ⟨m, 5, none⟩ = some (.int .u64 ch) ∧ (Instr.lookup 49 (.map (some K.M)) (.string K.nm) false).run Tryd.prog w = .ok (.pointer (some ⟨m, 0, none⟩)) w :=
  ⟨hT.c0, hT.c1, hR.c6, by rw [cell_of hm]; rfl, by rw [cell_of hm]; rfl, by rw [cell_of hm]; rfl, by rw [cell_of hm]; rfl, hM.look hn false⟩

/-- An emit turns nothing of the records, the members, the map. -/
theorem kept_emit {K : Cx} {T : Nat} {L : Int} {now ge : Int} {N : Nat} {w w' : World} (hT : TxnAt K T now ge N w) (hf : Fr K.B (· = T) w w') :
    (RecAt K L w → RecAt K L w') ∧ (∀ cur, MembersAt K cur w → MembersAt K cur w') ∧ ∀ m nm ep la fl lf ch cand ut jd en, MemRec m nm ep la fl lf ch cand ut jd en w → MemRec m nm ep la fl lf ch cand ut jd en w' := by
  obtain ⟨v, n, xs, gm, gl, gr, gh, gk, ca, x11, x12, x13, x14, hb, _⟩ := hT
  refine ⟨fun h => hf.keeps h (ne_of_types h hb (by decide)) (by decide), fun cur h => ?_, fun m nm ep la fl lf ch cand ut jd en h => hf.keeps h (ne_of_types h hb (by decide)) (by decide)⟩
  have hne := h.ne hb
  obtain ⟨born, ck, hm, F⟩ := h
  exact ⟨born, ck, hf.keepsMap hm hne, F⟩

set_option maxRecDepth 100000 in
set_option maxHeartbeats 1000000 in
/-- Fenced, and not judged yet: it is the current lease. -/
theorem state_due (K : Cx) (T m : Nat) (now ge L ep la : Int) (ch : Int) (cand : Value) (ut : Bool) (en : Int) (N : Nat) (w : World)
    (hT : TxnAt K T now ge N w) (hR : RecAt K L w) (hm : MemRec m K.nm ep la 0 false ch cand ut false en w) (hM : MembersAt K m w) (hn : K.nm.size ≤ maxLen) (hq : stateOf K.l K.d la 0 now = 2) (hB : K.B ≤ w.heap.size) (hN : N < 1000000000) :
    Calls Tryd.prog 22 #[ptr T, ptr m] w (StatePost K T m now ge ep la K.nm ch cand ut false N w) := by
  have t0 : w.cell? ⟨T, 0, none⟩ = some (.pointer (some ⟨K.c, 0, none⟩)) := hT.c0
  have t1 := hT.c1
  have c0 := hR.c0
  have c1 := hR.c1
  have m0 : w.cell? ⟨m, 0, none⟩ = some (.string K.nm) := by rw [cell_of hm]; rfl
  have m1 : w.cell? ⟨m, 1, none⟩ = some (.int .i64 ep) := by rw [cell_of hm]; rfl
  have m2 : w.cell? ⟨m, 2, none⟩ = some (.int .i64 la) := by rw [cell_of hm]; rfl
  have m3 : w.cell? ⟨m, 3, none⟩ = some (.int .i64 0) := by rw [cell_of hm]; rfl
  have m4 : w.cell? ⟨m, 4, none⟩ = some (.bool false) := by rw [cell_of hm]; rfl
  have hTlt := lt_of_cell t0
  have hclt := lt_of_cell c0
  have hmlt : m < w.heap.size := lt_of_cell m1
  have HT : Hid (TxnAt K T now ge N w) := hT
  have HR : Hid (RecAt K L w) := hR
  have HM : Hid (MemRec m K.nm ep la 0 false ch cand ut false en w) := hm
  have HMM : Hid (MembersAt K m w) := hM
  clear hT hR hm hM
  unfold ptr at *
  go_enter Tryd.func22, Tryd.ntmps22
  go_wp2_with fail
  go_region_held3 (fun w' => w'.cell? ⟨T, 0, none⟩ = some (.pointer (some ⟨K.c, 0, none⟩)) ∧ w'.cell? ⟨T, 1, none⟩ = some (.int .i64 now) ∧ w'.cell? ⟨K.c, 0, none⟩ = some (.int .i64 K.l) ∧ w'.cell? ⟨K.c, 1, none⟩ = some (.int .i64 K.d) ∧ w'.cell? ⟨m, 1, none⟩ = some (.int .i64 ep) ∧ w'.cell? ⟨m, 2, none⟩ = some (.int .i64 la) ∧ w'.cell? ⟨m, 3, none⟩ = some (.int .i64 0) ∧ w'.cell? ⟨m, 4, none⟩ = some (.bool false))
    (first | exact stateS t0 t1 rfl rfl c0 c1 m1 m2 m3 m4 | exact stateS (cell_same (hb.block T hTlt) t0) (cell_same (hb.block T hTlt) t1) (hb.block K.c hclt) (hb.block m hmlt) c0 c1 m1 m2 m3 m4)
    (first | (go_at_call 29; refine (stateOf_any _ _ _ _ _ _ _).mono ?_; rintro e w' ⟨rfl, hb⟩))
  have hb' := below_undrew hb
  have hm' : MemRec m K.nm ep la 0 false ch cand ut false en w' := (hb'.block m hmlt).trans HM.out
  have u1 : w'.cell? ⟨T, 1, none⟩ = some (.int .i64 now) := cell_same (hb'.block T hTlt) t1
  have n4 : w'.cell? ⟨m, 7, none⟩ = some (.slice none 0 0) := by rw [cell_of hm']; rfl
  have n9 : w'.cell? ⟨m, 9, none⟩ = some (.bool false) := by rw [cell_of hm']; rfl
  have n10 : w'.cell? ⟨m, 10, none⟩ = some (.int .i64 en) := by rw [cell_of hm']; rfl
  have f7 := frozen_of hm' 7
  have f9 := frozen_of hm' 9
  have f10 := frozen_of hm' 10
  have HM' : Hid (MemRec m K.nm ep la 0 false ch cand ut false en w') := hm'
  clear hm'
  go_wp2
  go_loop [48] (fun i => i = .int .i64 0) (fun _ => 0)
  case atStart => rfl
  case round =>
    subst hrel
    go_wp2
    obtain ⟨W, hW⟩ : ∃ W, W = judgeW w' m now := ⟨_, rfl⟩
    obtain ⟨g1, g2, g3, g4, g5⟩ := judge_facts (HT.out.below hb') ((hb'.block K.c hclt).trans HR.out) HM'.out (HMM.out.kept (hb'.block K.M HMM.out.lt))
    rw [show ((w'.setCell ⟨m, 9, none⟩ (.bool true)).setCell ⟨m, 10, none⟩ (.int .i64 now)).setCell ⟨m, 7, none⟩ (.slice none 0 0) = W from hW.symm]
    rw [← hW] at g1 g2 g3 g4 g5
    clear hW
    have hnq := neq_same m
    have Hd : Hid (stateOf K.l K.d la 0 now = 2) := hq
    clear hq
    obtain ⟨s1, s2, s3, s4, s5, s6, s7, s8⟩ := dueS (w := W.drew) g1 g2 g3 g4 hn
    have G : Hid (TxnAt K T now ge N W ∧ RecAt K L W ∧ MemRec m K.nm ep la 0 false ch cand ut true now W ∧ MembersAt K m W ∧ Fr K.B (· = m) w' W) := ⟨g1, g2, g3, g4, g5⟩
    clear g1 g2 g3 g4 g5
    refine wp_region_quiet_tail 50 (by kernel_rfl) (by kernel_rfl) ?_
    simp only [List.take_succ_cons, List.take_zero, List.drop_succ_cons, List.drop_zero]
    repeat (go_big_quiet_step (fail))
    refine wpQuiet_nil ?_
    have hBW : K.B ≤ W.drew.heap.size := Nat.le_trans hB (Nat.le_trans hb'.size G.out.2.2.2.2.size)
    go_wp2_with (go_at_call 26; refine (emit_any K T now ge N W.drew _ _ G.out.1 hBW hN).mono ?_; rintro e w'' ⟨rfl, hq1, hq2⟩)
    go_ret
    refine ⟨ret_int Hd.out.symm, hq1, ⟨true, now, (kept_emit (L := L) (w := W.drew) G.out.1 hq2).2.2 _ _ _ _ _ _ _ _ _ _ _ G.out.2.2.1, fun _ => rfl, fun _ => rfl⟩, ?_⟩
    exact ((Fr.of_below (Y := fun b => b = T ∨ b = m) hb').trans G.out.2.2.2.2 (fun _ q => q) (fun _ _ q => Or.inr q)).trans (Fr.undrew hq2) (fun _ q => q) (fun _ _ q => Or.inl q)
end Go.Proofs.Qxb6615073aDoor
