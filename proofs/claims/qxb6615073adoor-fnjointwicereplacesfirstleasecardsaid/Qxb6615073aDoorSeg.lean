import Derived.Test.Qxb6615073aDoorTail
namespace Go.Proofs.Qxb6615073aDoor
open Go

/-! ## A region that draws its order, with ONE operation that turns the world (a call): all before it only read and are waited for; all behind it wait for it and only read -/
section
variable {P : Program} {ops : Array Oper} {md : Region.Mode} {w : World}

/-- Every operation behind n waits for one from n on. -/
def laterB (md : Region.Mode) (ops : Array Oper) (n : Nat) : Bool :=
  (List.range ops.size).all fun t => decide (t ≤ n) || (List.range t).any fun j => decide (n ≤ j) && Region.waitsFor md ops t j

theorem later_waits {n : Nat} {listed : Array Bool} (hs : Region.sinkB md ops n = true) (hc : laterB md ops n = true) (inv : HeadInv md ops n listed) :
    ∀ (d i : Nat), n - i = d → i < n → listed.getD i true = false → ∀ t, n ≤ t → t ∉ Region.ready md ops listed := by
  intro d
  induction d using Nat.strongRecOn with
  | _ d ih =>
    intro i hd hi hun t ht hr
    obtain ⟨_, ot, hot, hall⟩ := mem_ready.1 hr
    have htlt : t < ops.size := (Array.getElem?_eq_some_iff.1 hot).1
    by_cases htn : t = n
    · subst htn
      obtain ⟨j, hj, hj2⟩ := List.any_eq_true.1 (List.all_eq_true.1 hs i (List.mem_range.2 hi))
      simp only [Bool.and_eq_true, decide_eq_true_eq] at hj2
      obtain ⟨oj, hoj, e, he, hb, hon⟩ := Region.waitsFor_spec hj2.2
      have hjle : j ≤ t := by have := List.mem_range.1 hj; omega
      by_cases hjt : j = t
      · subst hjt
        obtain rfl : oj = ot := Option.some.inj (hoj.symm.trans hot)
        have h2 := hall e he hb
        rw [hon, getD_both hun] at h2
        cases h2
      · cases hl : listed.getD j false with
        | true =>
          have h2 := inv.closed j oj hoj hl e he hb
          rw [hon, getD_both hun] at h2
          cases h2
        | false => exact ih (t - j) (by omega) j rfl (by omega) (getD_in (by rw [inv.size]; omega) hl) t (Nat.le_refl _) hr
    · have h1 := List.all_eq_true.1 hc t (List.mem_range.2 htlt)
      simp only [Bool.or_eq_true, decide_eq_true_eq] at h1
      rcases h1 with h1 | h1
      · omega
      · obtain ⟨j, hj, hj2⟩ := List.any_eq_true.1 h1
        simp only [Bool.and_eq_true, decide_eq_true_eq] at hj2
        obtain ⟨o', ho', e, he, hb, hon⟩ := Region.waitsFor_spec hj2.2
        obtain rfl : o' = ot := Option.some.inj (ho'.symm.trans hot)
        have h2 := hall e he hb
        have hjt := List.mem_range.1 hj
        rw [hon, getD_both (inv.tail j hj2.1 (by omega))] at h2
        cases h2

theorem head_first {n i : Nat} {oi : Oper} {v : Value} {L : Array Bool → Act → Prop} (hi : ops[i]? = some oi) (hsel : ∀ (j : Nat) (o : Oper) cs b, ops[j]? = some o → o.op ≠ .select cs b)
    (hs : Region.sinkB md ops n = true) (hc : laterB md ops n = true) (hin : i < n) (hdone : ∀ listed a, L listed a → ∀ j ∈ Region.ready md ops listed, n ≤ j) :
    ∀ (f : Nat) (listed : Array Bool) (a : Act), HeadInv md ops n listed →
      (∀ j oj, ops[j]? = some oj → j ≠ i → listed.getD j true = false → (∀ e ∈ oj.after, Region.binds md e = true → e.on ≠ i) → oi.apart ops oj = true) →
      i ∈ Region.ready md ops listed → YieldsAt P ops w oi v a → wpAnyL P md ops w n L f (listed.setIfInBounds i true) (a.put oi.dst v) → wpAnyL P md ops w n L (f + 1) listed a := by
  intro f
  induction f with
  | zero =>
    intro listed a inv _ hr hy H
    have hun := (mem_ready.1 hr).1
    refine ⟨fun h => (by rw [h] at hr; cases hr), fun j hj => ?_⟩
    have hjn : j < n := (Nat.lt_or_ge j n).resolve_right (fun h => later_waits hs hc inv _ i rfl hin hun j h hj)
    refine ⟨hjn, ?_⟩
    by_cases hji : j = i
    · subst hji; exact hy.stOp hi H
    · have := hdone _ _ H j (ready_mono hj hji)
      omega
  | succ f ih =>
    intro listed a inv hfree hr hy H
    have hun := (mem_ready.1 hr).1
    refine ⟨fun h => (by rw [h] at hr; cases hr), fun j hj => ?_⟩
    have hjn : j < n := (Nat.lt_or_ge j n).resolve_right (fun h => later_waits hs hc inv _ i rfl hin hun j h hj)
    refine ⟨hjn, ?_⟩
    by_cases hji : j = i
    · subst hji; exact hy.stOp hi H
    · have h1 := (H.2 j (ready_mono hj hji)).2
      obtain ⟨hjun, oj, hoj, hall⟩ := mem_ready.1 hj
      have hnot : ∀ e ∈ oj.after, Region.binds md e = true → e.on ≠ i := fun e he hb heq => by
        have h1 := hall e he hb
        rw [heq, getD_both hun] at h1
        cases h1
      have h2 := stOp_put hoj (hfree j oj hoj hji hjun hnot) (fun cs b => hsel i oi cs b hi) (fun cs b => hsel j oj cs b hoj) hy h1
      refine stOp_mono (fun a' h3 => ih (listed.setIfInBounds j true) a' (inv.set hj hjn) (fun k ok hk hki hun' hno => hfree k ok hk hki ?_ hno) (ready_mono hr (Ne.symm hji)) h3.1 ?_) h2
      · by_cases hjk : j = k
        · subst hjk; exact hjun
        · rw [getD_set_ne true hjk] at hun'; exact hun'
      · rw [Array.setIfInBounds_comm _ _ hji]
        exact h3.2

/-- The head in the order of the text, and what is ready behind it. -/
def headB (md : Region.Mode) (ops : Array Oper) (n : Nat) : Nat → Nat → Array Bool → Bool
  | 0, _, listed => decide (Region.ready md ops listed = [n]) && Region.lexFrom md ops (ops.size - n - 1) (n + 1) (listed.setIfInBounds n true)
  | f + 1, k, listed => (Region.ready md ops listed).contains k && Region.free md ops listed k && headB md ops n f (k + 1) (listed.setIfInBounds k true)

theorem head_lex {n : Nat} {Lq : Act → Prop} (hsel : Region.noSelect ops = true) (hs : Region.sinkB md ops n = true) (hc : laterB md ops n = true) :
    ∀ (l : List Oper) (k : Nat) (listed : Array Bool) (a : Act), (∀ j, j < l.length → l[j]? = ops[k + j]?) → k + l.length = n → HeadInv md ops n listed →
    headB md ops n l.length k listed = true → wpStill P ops w Lq l a →
    wpAnyL P md ops w n (fun listed' a' => (Region.ready md ops listed' = [n] ∧ Region.lexFrom md ops (ops.size - n - 1) (n + 1) (listed'.setIfInBounds n true) = true) ∧ Lq a') l.length listed a
  | [], _, _, _, _, _, _, hB, h => ⟨by simpa [headB] using hB, h⟩
  | o :: l, k, listed, a, hl, hk, inv, hB, h => by
    have h0 : ops[k]? = some o := by simpa using (hl 0 (by simp)).symm
    simp only [List.length_cons, headB, Bool.and_eq_true] at hB
    obtain ⟨⟨hr, hf⟩, hB'⟩ := hB
    have hkn : k < n := by simp only [List.length_cons] at hk; omega
    have hr' : k ∈ Region.ready md ops listed := by simpa using hr
    have hst : stOp P ops w k (wpStill P ops w Lq l) a := by unfold stOp; simp only [h0]; exact h
    obtain ⟨v, hy, hK⟩ := yieldsAt_of_stOp h0 hst
    exact head_first h0 (Region.noSelect_spec hsel) hs hc hkn (fun listed' a' hL j hj => by rw [hL.1.1] at hj; simp at hj; omega) l.length listed a inv (Region.free_spec h0 hf) hr' hy
      (head_lex hsel hs hc l (k + 1) _ _ (fun j hj => by have := hl (j + 1) (by simp; omega); simpa [Nat.add_assoc, Nat.add_comm 1 j] using this) (by simp only [List.length_cons] at hk; omega) (inv.set hr' hkn) hB' hK)

/-- 'N' at the plain end, nothing else. -/
def OnlyN (N : Act → World → Prop) : Exit → Act → World → Prop
  | .normal, a, w => N a w
  | _, _, _ => False

theorem wp_onlyN {o : Oper} {a : Act} {w : World} {N K : Act → World → Prop} {Q : Exit → Act → World → Prop} (h : o.wp P a w K (OnlyN N)) : o.wp P a w K Q := by
  unfold Oper.wp at *
  generalize (execOp a.eval o).run P w = r at *
  cases r with
  | ok n w' =>
    cases n with
    | enter f args =>
      refine Calls.mono (h : Calls P f args w' _) fun e w'' he => ?_
      cases e with
      | returned v => exact he
      | panicked c => exact (he : False).elim
      | outgrown => obtain ⟨_, _, q⟩ := (he : LetsOut (OnlyN N)); exact (q : False).elim
    | value v => exact h
    | skip => exact h
    | defer d => exact h
    | _ => first | exact h | exact (h : False).elim
  | halt x w' => cases x <;> first | exact (h : False).elim | (obtain ⟨_, _, q⟩ := (h : LetsOut (OnlyN N)); exact (q : False).elim)

def barrierB (ops : Array Oper) (n : Nat) : Bool :=
  Region.noSelect ops && decide (n < ops.size) && Region.sinkB .any ops n && laterB .any ops n && headB .any ops n n 0 (Array.replicate ops.size false)

/-- THE LAW. -/
theorem wp_region_barrier {id : Nat} {Q : Exit → Act → World → Prop} {a : Act} {l : List Oper} (n : Nat) (hm : P.follows .mixedOrders = true) (hB : barrierB l.toArray n = true)
    (h : wpQuiet P l.toArray (fun w' => w' = w.drew) (fun a' => wpList P l.toArray (OnlyN fun a'' w'' => wpQuiet P l.toArray (fun v => ∃ m, v = w''.drewN m) (fun b => ∀ v, (∃ m, v = w''.drewN m) → Q .normal b v) (l.drop (n + 1)) a'') ((l.drop n).take 1) a' w.drew) (l.take n) a) :
    (Code.region id l.toArray true).wp P Q a w := by
  simp only [barrierB, Bool.and_eq_true, decide_eq_true_eq] at hB
  obtain ⟨⟨⟨⟨hsel, hn⟩, hs⟩, hc⟩, hlex⟩ := hB
  have hn' : n < l.length := by simpa using hn
  have htl : (l.take n).length = n := by simp; omega
  have inv0 : HeadInv .any l.toArray n (Array.replicate l.toArray.size false) :=
    ⟨by simp, fun j oj _ hl => (by rw [getD_replicate_false] at hl; cases hl), fun t _ ht => getD_in (by simpa using ht) (getD_replicate_false _ _)⟩
  have H := head_lex (md := .any) hsel hs hc (l.take n) 0 _ a (fun j hj => by
    have hj' : j < n := by rw [htl] at hj; exact hj
    simp [hj']) (by simpa using htl) inv0 (by rw [htl]; exact hlex) (wpStill_of_quiet _ _ h)
  refine wp_region_any hm ?_
  have := wpAny_of_head (Q' := Q) (g := (l.toArray.size - n - 1) + 1) (fun listed a' hL => by
    obtain ⟨⟨hr, hlx⟩, hw⟩ := hL
    refine ⟨fun h1 => (by rw [hr] at h1; cases h1), fun i hi => ?_⟩
    rw [hr] at hi
    obtain rfl : i = n := by simpa using hi
    have hd : (l.drop i).take 1 = [l[i]] := by rw [List.drop_eq_getElem_cons hn']; rfl
    have h0 : l.toArray[i]? = some l[i] := by simp [hn']
    rw [hd] at hw
    unfold wpList at hw
    unfold wpOp
    simp only [h0]
    have done : ∀ a'' w'', wpQuiet P l.toArray (fun v => ∃ m, v = w''.drewN m) (fun b => ∀ v, (∃ m, v = w''.drewN m) → Q .normal b v) (l.drop (i + 1)) a'' → wpAny P .any l.toArray Q (l.toArray.size - i - 1) (listed.setIfInBounds i true) a'' w'' := fun a'' w'' hq => by
      have hql := wpAnyQ_lex (md := .any) hsel (l.drop (i + 1)) (i + 1) (listed.setIfInBounds i true) a'' (fun j => by simp [List.getElem?_drop]) (by simpa [Nat.sub_sub] using hlx) hq
      have hlen : (l.drop (i + 1)).length = l.toArray.size - i - 1 := by simp; omega
      rw [hlen] at hql
      exact wpAny_of_quiet (fun b v hv hb => hb v hv) _ _ _ w'' ⟨0, rfl⟩ hql
    split
    · rename_i hwt
      rw [if_pos hwt] at hw
      rcases hw with hw | ⟨_, _, _, q⟩
      · exact .inl (Oper.wp_mono (fun a'' w'' q => done a'' w'' q) (wp_onlyN hw))
      · exact (q : False).elim
    · rename_i hwt
      rw [if_neg hwt] at hw
      exact done _ _ hw) _ _ _ H
  rw [htl, show n + (l.toArray.size - n - 1 + 1) = l.toArray.size by omega] at this
  exact this
end
end Go.Proofs.Qxb6615073aDoor
