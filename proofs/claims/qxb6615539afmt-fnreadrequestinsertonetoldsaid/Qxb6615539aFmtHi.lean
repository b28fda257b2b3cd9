import Derived.Test.Qxb6615539aFmtCmp
namespace Go.Proofs.Qxb6615539aFmt
open Go.RowKit
open Extern.Stop (cell)
set_option linter.unusedSimpArgs false

/-- The first of the highest among the replies 0 .. k. -/
def hi (R : Nat → Rep) : Nat → Nat
  | 0 => 0
  | k + 1 => if 0 < repCmp (R (k + 1)) (R (hi R k)) then k + 1 else hi R k

theorem hi_le (R : Nat → Rep) : ∀ k, hi R k ≤ k
  | 0 => Nat.le_refl _
  | k + 1 => by
    have := hi_le R k
    unfold hi; split <;> omega

def HiPost (r : Rep) (lo : Nat) (w0 w : World) (e : Ending) (w' : World) : Prop := ∃ v, e = .returned (.agg (msgCells r v).toArray) ∧ (ValIn w0 v r.val ∧ LoV lo v) ∧ Below w.heap.size w w'

/-- A new variable of many cells; the world behind it is a letter. -/
structure NewVar (w : World) (n : Nat) (W : World) : Prop where
  th : W.there w.heap.size 0 n
  bel : Below w.heap.size w W
  size : W.heap.size = w.heap.size + 1

theorem wpList_new {ops : Array Oper} {rest : List Oper} {op : Oper} {a : Act} {w : World} {Q : Exit → Act → World → Prop} (d : Nat) (hg : op.guard = none) (_ : op.dst = some d) (ty n : Nat) (ho : op.op = .alloc ty)
    (hz : (Tryf.prog.info? ty).map (fun i => i.zero.map (·.cells.size)) = some (some n))
    (h : ∀ W, Hid (NewVar w n W) → wpList Tryf.prog ops Q rest (a.put op.dst (.pointer (some ⟨w.heap.size, 0, none⟩))) W) : wpList Tryf.prog ops Q (op :: rest) a w :=
  wpList_alloc_wide hg ty n ho hz fun zc hzc => h _ ⟨there_new _ _ _ _ _ (by omega), (Below.refl _ _).alloc (Nat.le_refl _) _, by simp⟩

theorem zero43 : (Tryf.prog.info? 43).map (fun i => i.zero.map (·.cells.size)) = some (some 60) := by kernel_rfl
theorem zero49 : (Tryf.prog.info? 49).map (fun i => i.zero.map (·.cells.size)) = some (some 59) := by kernel_rfl

/-- A store of a whole message. -/
theorem wpList_put43 {ops : Array Oper} {rest : List Oper} {op : Oper} {a : Act} {w : World} {Q : Exit → Act → World → Prop} (hg : op.guard = none) (x y : Operand) (ho : op.op = .store 43 x y) (b o : Nat) (r : Rep) (v : Value) (hx : a.eval x = .pointer (some ⟨b, o, none⟩)) (hy : a.eval y = .agg (msgCells r v).toArray)
    (hv : v.oneCell' = true) (ht : w.there b o 60) (h : wpList Tryf.prog ops Q rest (a.put op.dst undef) (w.setCells b o (msgCells r v))) : wpList Tryf.prog ops Q (op :: rest) a w := by
  have hsz : (msgCells r v).toArray.size = 60 := msgCells_len _ _
  refine wpList_store_mid hg 43 x y ho b o _ hx hy (by rw [hsz]; exact ht) (by rw [hsz]; exact info43) (all_oneCell_toArray (msgCells_one r v hv)) ?_
  rw [List.toList_toArray]
  exact h
theorem wpList_get43 {ops : Array Oper} {rest : List Oper} {op : Oper} {a : Act} {w : World} {Q : Exit → Act → World → Prop} (hg : op.guard = none) (x : Operand) (ho : op.op = .load 43 x) (b o : Nat) (r : Rep) (v : Value) (hx : a.eval x = .pointer (some ⟨b, o, none⟩)) (hc : w.rangeAt b o (msgCells r v))
    (h : wpList Tryf.prog ops Q rest (a.put op.dst (.agg (msgCells r v).toArray)) w) : wpList Tryf.prog ops Q (op :: rest) a w :=
  wpList_load_mid hg 43 x ho b o hx _ _ hc Tryf.underlying43 rfl (by rw [msgCells_len]; exact info43) h

/-- What the loop of MaxFunc holds: the message so far, in block g; the result's variable, block g0. -/
structure MaxAt (lo : Nat) (w0 w : World) (g0 g : Nat) (r : Rep) (wr : World) : Prop where
  msg : ∃ v, wr.rangeAt g 0 (msgCells r v) ∧ (ValIn w0 v r.val ∧ LoV lo v)
  th : wr.there g 0 60
  th0 : wr.there g0 0 60
  bel : Below w.heap.size w wr

theorem MaxAt.below {lo : Nat} {w0 w : World} {g0 g : Nat} {r : Rep} {wr w' : World} (h : MaxAt lo w0 w g0 g r wr) (hb : Below wr.heap.size wr w') : MaxAt lo w0 w g0 g r w' := by
  obtain ⟨v, h1, h2⟩ := h.msg
  exact ⟨⟨v, Below.range h1 hb, h2⟩, there_below h.th hb, there_below h.th0 hb, h.bel.trans (hb.mono h.bel.size)⟩

theorem MaxAt.set {lo : Nat} {w0 w : World} {g0 g : Nat} {r r' : Rep} {wr : World} {v : Value} (h : MaxAt lo w0 w g0 g r wr) (hg : w.heap.size ≤ g) (hv : ValIn w0 v r'.val ∧ LoV lo v) : MaxAt lo w0 w g0 g r' (wr.setCells g 0 (msgCells r' v)) :=
  ⟨⟨v, World.rangeAt_setCells_same _ _ _ _ (by rw [msgCells_len]; exact h.th), hv⟩, World.there_setCells h.th _ _ _, World.there_setCells h.th0 _ _ _, Below.setCells hg _ _ _ h.bel⟩

theorem hi_succ (R : Nat → Rep) (k : Nat) (hk : 0 < k) : hi R k = if 0 < repCmp (R k) (R (hi R (k - 1))) then k else hi R (k - 1) := by
  cases k with
  | zero => omega
  | succ k => rfl

set_option maxHeartbeats 2000000 in
theorem maxFunc_any (lo b off n c : Nat) (R : Nat → Rep) (w0 w : World) (h : MsgIn w0 lo (some ⟨b, off, none⟩) b off n R) (hb0 : Below w0.heap.size w0 w) (hn : 0 < n) (hn2 : n ≤ 1048576) :
    Calls Tryf.prog 38 #[.slice (some ⟨b, off, none⟩) n c, .func (.func 39) #[] #[]] w (HiPost (R (hi R (n - 1))) lo w0 w) := by
  have HB0 : Hid (Below w0.heap.size w0 w) := hb0
  clear hb0
  have H : Hid (MsgIn w0 lo (some ⟨b, off, none⟩) b off n R) := h
  obtain ⟨v0, hr0, hv0⟩ := h.rep 0 hn
  rw [Nat.zero_mul, Nat.add_zero] at hr0
  have hlt0 : ¬ ((n : Int) < 1) := by omega
  have hlt1 : (0 : Int) < (n : Int) := by omega
  have HV0 : Hid (ValIn w0 v0 (R 0).val ∧ LoV lo v0) := hv0
  have HR0 : Hid (w.rangeAt b off (msgCells (R 0) v0)) := Below.range hr0 HB0.out
  clear h hv0 hr0
  go_enter Tryf.func38, Tryf.ntmps38
  go_wp2_with (first | (refine wpList_new 4 rfl rfl 43 60 rfl zero43 ?_; intro W1 N1) | (refine wpList_new 5 rfl rfl 43 60 rfl zero43 ?_; intro W2 N2) | refine wpList_get43 rfl _ rfl _ _ (R 0) v0 rfl (Below.range HR0.out N1.out.bel) ?_ | refine wpList_put43 rfl _ _ rfl _ _ (R 0) v0 rfl rfl (valIn_one HV0.out.1) N2.out.th ?_)
  have hg : w.heap.size ≤ W1.heap.size := by rw [N1.out.size]; omega
  have hst : MaxAt lo w0 w w.heap.size W1.heap.size (R (hi R (1 - 1))) (W2.setCells W1.heap.size 0 (msgCells (R 0) v0)) := by
    refine ⟨⟨v0, World.rangeAt_setCells_same _ _ _ _ (by rw [msgCells_len]; exact N2.out.th), HV0.out⟩, World.there_setCells N2.out.th _ _ _, World.there_setCells (there_below N1.out.th N2.out.bel) _ _ _, Below.setCells hg _ _ _ (N1.out.bel.trans (N2.out.bel.mono hg))⟩
  have HS : Hid _ := hst
  clear hst
  go_loopw [6] (fun i wr => ∃ k : Nat, 1 ≤ k ∧ k ≤ n ∧ i = .int .i64 k ∧ MaxAt lo w0 w w.heap.size W1.heap.size (R (hi R (k - 1))) wr) (fun i _ => n - (intOf i).toNat)
  case atStart => exact ⟨1, Nat.le_refl _, hn, rfl, HS.out⟩
  case round =>
    obtain ⟨k, hk1, hk, rfl, hM⟩ := hrel
    have HM : Hid _ := hM
    clear hM HS
    by_cases hlt : k < n
    · obtain ⟨vk, hrk, hvk⟩ := H.out.rep k hlt
      obtain ⟨vm, hrm, hvm⟩ := HM.out.msg
      have hk0 : (0 : Int) ≤ (k : Int) := by omega
      have hk2 : (k : Int) < (n : Int) := by omega
      have F1 : ∀ w', Below wr.heap.size wr w' → w'.rangeAt b (off + k * 60) (msgCells (R k) vk) := fun w' hw => Below.range (Below.range (Below.range hrk HB0.out) HM.out.bel) hw
      have F2 : ∀ w', Below wr.heap.size wr w' → w'.rangeAt W1.heap.size 0 (msgCells (R (hi R (k - 1))) vm) := fun w' hw => Below.range hrm hw
      have i1 : (Tryf.prog.info? 43).map (·.size) = some (msgCells (R k) vk).length := by rw [msgCells_len]; exact info43
      have i2 : (Tryf.prog.info? 43).map (·.size) = some (msgCells (R (hi R (k - 1))) vm).length := by rw [msgCells_len]; exact info43
      have HVk : Hid (ValIn w0 vk (R k).val ∧ LoV lo vk) := hvk
      clear hrk hvk hrm hvm
      go_wp2_with fail
      refine wp_region_floatl (fun w' => Below wr.heap.size wr w') [(0, 6)] [6, 7] (by kernel_rfl) (by kernel_rfl) (Below.refl _ _).drew ?_
      intro OPS hO
      simp only [List.map_cons, List.map_nil, List.getElem?_cons_succ, List.getElem?_cons_zero, List.cons.injEq, and_true] at hO
      obtain ⟨h6, h7⟩ := hO
      simp only [segs, List.drop_succ_cons, List.drop_zero, List.take_succ_cons, List.take_zero, List.cons_append, List.nil_append, List.append_nil]
      have H6 : Hid _ := h6
      have H7 : Hid _ := h7
      clear h6 h7
      repeat (apply take_step rfl; (case h => (intro wx hx; first | exact exec_load_mid 43 _ rfl _ _ rfl _ _ (F1 wx hx) Tryf.underlying43 rfl i1 | exact exec_load_mid 43 _ rfl _ _ rfl _ _ (F2 wx hx) Tryf.underlying43 rfl i2 | (go_simp; try with_reducible rfl))); try simp only [Act.put, List.setIfInBounds_toArray, List.set_cons_zero, List.set_cons_succ])
      refine take_nil ?_
      refine rest_step H6.out ?_
      go_wp2_with (go_at_call 39; refine (hiFn_any (R k) (R (hi R (k - 1))) vk vm wr.drew).mono ?_; rintro e w1 ⟨rfl, hb1⟩)
      have hbb : Below wr.heap.size wr w1 := (Below.refl _ _).drew.trans hb1
      have HM1 : Hid (MaxAt lo w0 w w.heap.size W1.heap.size (R (hi R (k - 1))) w1) := HM.out.below hbb
      refine onlyN_mk ⟨hbb, ?_⟩
      refine rest_step H7.out ?_
      by_cases hp : 0 < repCmp (R k) (R (hi R (k - 1)))
      · go_wp2_with fail
        refine onlyN_mk ⟨hbb, rest_nil ?_⟩
        have G1 : Hid (w1.rangeAt b (off + k * 60) (msgCells (R k) vk)) := F1 w1 hbb
        have HN : Hid (MaxAt lo w0 w w.heap.size W1.heap.size (R (hi R (k + 1 - 1))) (w1.setCells W1.heap.size 0 (msgCells (R k) vk))) := by
          have : hi R (k + 1 - 1) = k := by rw [Nat.add_sub_cancel, hi_succ R k hk1, if_pos hp]
          rw [this]
          exact HM1.out.set hg HVk.out
        clear F1 F2
        go_wp2_with (first | refine wpList_get43 rfl _ rfl _ _ (R k) vk rfl G1.out ?_ | refine wpList_put43 rfl _ _ rfl _ _ (R k) vk rfl rfl (valIn_one HVk.out.1) HM1.out.th ?_)
        go_roundw
        case rel => exact ⟨k + 1, by omega, by omega, by go_num, HN.out⟩
        case measure => simp [intOf]; omega
      · go_wp2_with fail
        refine onlyN_mk ⟨hbb, rest_nil ?_⟩
        have HN : Hid (MaxAt lo w0 w w.heap.size W1.heap.size (R (hi R (k + 1 - 1))) w1) := by
          have : hi R (k + 1 - 1) = hi R (k - 1) := by rw [Nat.add_sub_cancel, hi_succ R k hk1, if_neg (by omega)]
          rw [this]
          exact HM1.out
        clear F1 F2
        go_wp2_with fail
        go_roundw
        case rel => exact ⟨k + 1, by omega, by omega, by go_num, HN.out⟩
        case measure => simp [intOf]; omega
    · obtain ⟨vm, hrm, hvm⟩ := HM.out.msg
      have HRm : Hid _ := hrm
      have HVm : Hid _ := hvm
      clear hrm hvm
      go_wp2_with (first | refine wpList_get43 rfl _ rfl _ _ _ vm rfl HRm.out ?_ | refine wpList_put43 rfl _ _ rfl _ _ _ vm rfl rfl (valIn_one HVm.out.1) HM.out.th0 ?_)
      have hkn : k = n := by omega
      subst hkn
      have hb3 : Below w.heap.size w (wr.setCells w.heap.size 0 (msgCells (R (hi R (k - 1))) vm)) := Below.setCells (Nat.le_refl _) _ _ _ HM.out.bel
      refine bodyPost_ret (ret_cell 4 43 rfl w.heap.size 0 rfl (msgCells (R (hi R (k - 1))) vm) _ (World.rangeAt_setCells_same _ _ _ _ (by rw [msgCells_len]; exact HM.out.th0)) Tryf.underlying43 rfl (by rw [msgCells_len]; exact info43)) rfl ?_
      exact ⟨_, rfl, HVm.out, hb3⟩

/-! ### 31: highest -/
set_option maxHeartbeats 1000000 in
theorem highest_any (lo : Nat) (a : Option Addr) (b off n c : Nat) (R : Nat → Rep) (w : World) (h : MsgIn w lo a b off n R) (hn : 0 < n) (hn2 : n ≤ 1048576) :
    Calls Tryf.prog 31 #[.slice a n c] w (HiPost (R (hi R (n - 1))) lo w w) := by
  obtain rfl := h.at_ hn
  have H : Hid _ := h
  clear h
  go_enter Tryf.func31, Tryf.ntmps31
  go_wp2_with (first | (refine wpList_new 2 rfl rfl 43 60 rfl zero43 ?_; intro W1 N1))
  go_at_call 38
  refine (maxFunc_any lo b off n c R w W1 H.out N1.out.bel hn hn2).mono ?_
  rintro e w2 ⟨v, rfl, hv, hb⟩
  have HV : Hid _ := hv
  have hsz : w.heap.size ≤ W1.heap.size := by rw [N1.out.size]; omega
  have HB : Hid (Below w.heap.size w w2) := N1.out.bel.trans (hb.mono hsz)
  have HT : Hid (w2.there w.heap.size 0 60) := there_below N1.out.th hb
  clear hv
  go_wp2_with (first | refine wpList_put43 rfl _ _ rfl _ _ _ v rfl rfl (valIn_one HV.out.1) HT.out ?_)
  have hb3 : Below w.heap.size w (w2.setCells w.heap.size 0 (msgCells (R (hi R (n - 1))) v)) := Below.setCells (Nat.le_refl _) _ _ _ HB.out
  refine bodyPost_ret (ret_cell 2 43 rfl w.heap.size 0 rfl (msgCells (R (hi R (n - 1))) v) _ (World.rangeAt_setCells_same _ _ _ _ (by rw [msgCells_len]; exact HT.out)) Tryf.underlying43 rfl (by rw [msgCells_len]; exact info43)) rfl ?_
  exact ⟨v, rfl, HV.out, hb3⟩
end Go.Proofs.Qxb6615539aFmt
