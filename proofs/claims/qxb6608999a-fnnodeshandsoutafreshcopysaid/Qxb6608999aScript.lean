import Derived.Test.Qxb6608999aBase
import Derived.OrdersHeld
namespace Go.Proofs.Qxb6608999a
open Go

/-! ## A region that draws its order, by a script: some operations are taken as reads under S, the others come up alone -/
section
variable {P : Program} {ops : Array Oper} {md : Region.Mode} {S : World → Prop}

/-- 'N' at the plain end, nothing else. -/
def OnlyN (N : Act → World → Prop) : Exit → Act → World → Prop
  | .normal, a, w => N a w
  | _, _, _ => False

theorem onlyN_mk {N : Act → World → Prop} {a : Act} {w : World} (h : N a w) : OnlyN N .normal a w := h

theorem wp_onlyN {o : Oper} {a : Act} {w : World} {N K : Act → World → Prop} {Q : Exit → Act → World → Prop} (h : o.wp P a w K (OnlyN N)) : o.wp P a w K Q := by
  unfold Oper.wp at *
  generalize (execOp a.eval o).run P w = r at *
  cases r with
  | ok n w' =>
    cases n with
    | enter f args =>
      refine Calls.mono (h : Calls P f args w' _) fun e w'' he => ?_
      cases e with
      | returned v => exact he
      | panicked c => exact (he : False).elim
      | outgrown => obtain ⟨_, _, q⟩ := (he : LetsOut (OnlyN N)); exact (q : False).elim
    | value v => exact h
    | skip => exact h
    | defer d => exact h
    | _ => first | exact h | exact (h : False).elim
  | halt x w' => cases x <;> first | exact (h : False).elim | (obtain ⟨_, _, q⟩ := (h : LetsOut (OnlyN N)); exact (q : False).elim)

theorem wpOp_onlyN {i : Nat} {a : Act} {w : World} {N K : Act → World → Prop} {Q : Exit → Act → World → Prop} (h : wpOp P ops (OnlyN N) i K a w) : wpOp P ops Q i K a w := by
  unfold wpOp at *
  split
  · rename_i e; rw [e] at h; exact h
  · rename_i o e
    rw [e] at h
    simp only at h
    split
    · rename_i hw
      rw [if_pos hw] at h
      rcases h with h | ⟨_, _, _, q⟩
      · exact .inl (wp_onlyN h)
      · exact (q : False).elim
    · rename_i hw
      rw [if_neg hw] at h
      exact h

theorem wpAny_onlyN {Q : Exit → Act → World → Prop} : ∀ (f : Nat) (listed : Array Bool) (a : Act) (w : World), wpAny P md ops (OnlyN (Q .normal)) f listed a w → wpAny P md ops Q f listed a w
  | 0, _, _, _, h => h
  | f + 1, _, _, _, h => ⟨h.1, fun i hi => wpOp_onlyN (wpOp_mono (fun a' w' h' => wpAny_onlyN f _ a' w' h') (h.2 i hi))⟩

def wpScript (P : Program) (ops : Array Oper) (S : World → Prop) (N : Act → World → Prop) : List (Bool × Oper) → Act → World → Prop
  | [], a, w => N a w
  | (true, o) :: r, a, w => ∃ v, YieldsIf P ops S o v a ∧ wpScript P ops S N r (a.put o.dst v) w
  | (false, o) :: r, a, w => wpList P ops (OnlyN fun a' w' => S w' ∧ wpScript P ops S N r a' w') [o] a w

theorem sc_take {N : Act → World → Prop} {o : Oper} {r : List (Bool × Oper)} {a : Act} {w : World} (hg : o.guard = none) (v : Value) (h : ∀ w, S w → (execOp a.eval o).run P w = .ok (.value v) w) (hn : wpScript P ops S N r (a.put o.dst v) w) : wpScript P ops S N ((true, o) :: r) a w :=
  ⟨v, .inl ⟨by simp [Region.wanted, hg], h⟩, hn⟩
theorem sc_takeIf {N : Act → World → Prop} {o : Oper} {r : List (Bool × Oper)} {a : Act} {w : World} (hw : Region.wanted o (yielded ops a.tmps) = true) (v : Value) (h : ∀ w, S w → (execOp a.eval o).run P w = .ok (.value v) w) (hn : wpScript P ops S N r (a.put o.dst v) w) : wpScript P ops S N ((true, o) :: r) a w :=
  ⟨v, .inl ⟨hw, h⟩, hn⟩
theorem sc_skip {N : Act → World → Prop} {o : Oper} {r : List (Bool × Oper)} {a : Act} {w : World} (hw : Region.wanted o (yielded ops a.tmps) = false) (hn : wpScript P ops S N r (a.put o.dst undef) w) : wpScript P ops S N ((true, o) :: r) a w :=
  ⟨undef, .inr ⟨hw, rfl⟩, hn⟩
theorem sc_must {N : Act → World → Prop} {o : Oper} {r : List (Bool × Oper)} {a : Act} {w : World} (h : wpList P ops (OnlyN fun a' w' => S w' ∧ wpScript P ops S N r a' w') [o] a w) : wpScript P ops S N ((false, o) :: r) a w := h
theorem sc_nil {N : Act → World → Prop} {a : Act} {w : World} (h : N a w) : wpScript P ops S N [] a w := h

def scriptB (md : Region.Mode) (ops : Array Oper) : List (Bool × Nat) → Array Bool → Bool
  | [], listed => decide (Region.ready md ops listed = [])
  | (true, j) :: r, listed => (Region.ready md ops listed).contains j && Region.free md ops listed j && scriptB md ops r (listed.setIfInBounds j true)
  | (false, j) :: r, listed => decide (Region.ready md ops listed = [j]) && scriptB md ops r (listed.setIfInBounds j true)

theorem wpOp_of_list {K N : Act → World → Prop} {o : Oper} {i : Nat} {a : Act} {w : World} (hi : ops[i]? = some o) (h : wpList P ops (OnlyN K) [o] a w) : wpOp P ops (OnlyN N) i K a w := by
  unfold wpList at h
  unfold wpOp
  simp only [hi]
  split
  · rename_i hw
    rw [if_pos hw] at h
    rcases h with h | ⟨_, _, _, q⟩
    · exact .inl (wp_onlyN (Oper.wp_mono (fun a' w' q => q) h))
    · exact (q : False).elim
  · rename_i hw
    rw [if_neg hw] at h
    exact h

theorem script_any {N : Act → World → Prop} (hsel : Region.noSelect ops = true) : ∀ (sc : List (Bool × Nat)) (os : List (Bool × Oper)) (listed : Array Bool) (a : Act) (w : World), os.map (fun p => (p.1, some p.2)) = sc.map (fun p => (p.1, ops[p.2]?)) → scriptB md ops sc listed = true → S w →
    wpScript P ops S N os a w → ∀ f, wpAnyH P md ops (OnlyN N) S (sc.length + f) listed a w
  | [], [], listed, a, w, _, hB, _, h, f => by
    have hr : Region.ready md ops listed = [] := by simpa [scriptB] using hB
    exact wpAnyH_done hr h _
  | [], _ :: _, _, _, _, hm, _, _, _, _ => by simp at hm
  | _ :: _, [], _, _, _, hm, _, _, _, _ => by simp at hm
  | (true, j) :: sc, (t, o) :: os, listed, a, w, hm, hB, hS, h, f => by
    simp only [List.map_cons, List.cons.injEq, Prod.mk.injEq] at hm
    obtain ⟨⟨ht, ho⟩, hm⟩ := hm
    subst ht
    simp only [scriptB, Bool.and_eq_true] at hB
    obtain ⟨⟨hr, hf⟩, hB'⟩ := hB
    obtain ⟨v, hy, hn⟩ := h
    rw [show ((true, j) :: sc).length + f = (sc.length + f) + 1 by simp; omega]
    exact wpAnyH_take ho.symm hsel hf hr (fun c a w q => q) hy hS (script_any hsel sc os _ _ w hm hB' hS hn f)
  | (false, j) :: sc, (t, o) :: os, listed, a, w, hm, hB, _, h, f => by
    simp only [List.map_cons, List.cons.injEq, Prod.mk.injEq] at hm
    obtain ⟨⟨ht, ho⟩, hm⟩ := hm
    subst ht
    simp only [scriptB, Bool.and_eq_true, decide_eq_true_eq] at hB
    obtain ⟨hr, hB'⟩ := hB
    rw [show ((false, j) :: sc).length + f = (sc.length + f) + 1 by simp; omega]
    refine wpAnyH_all hr (by simp) fun i hi => ?_
    obtain rfl := List.mem_singleton.1 hi
    exact wpOp_mono (fun a' w' q => ⟨q.1, script_any hsel sc os _ a' w' hm hB' q.1 q.2 f⟩) (wpOp_of_list ho.symm h)

def scOps (l : List Oper) : List (Bool × Nat) → List (Bool × Oper)
  | [] => []
  | (t, j) :: r => match l[j]? with
    | some o => (t, o) :: scOps l r
    | none => scOps l r

theorem scOps_map {l : List Oper} : ∀ (sc : List (Bool × Nat)), (sc.all fun p => decide (p.2 < l.length)) = true → (scOps l sc).map (fun p => (p.1, some p.2)) = sc.map (fun p => (p.1, l.toArray[p.2]?))
  | [], _ => rfl
  | (t, j) :: r, h => by
    simp only [List.all_cons, Bool.and_eq_true, decide_eq_true_eq] at h
    have hr := scOps_map r h.2
    have hj : l[j]? = some l[j] := List.getElem?_eq_getElem h.1
    unfold scOps
    rw [hj]
    simp [hr, h.1]

theorem wp_region_script {id : Nat} {Q : Exit → Act → World → Prop} {a : Act} {w : World} {l : List Oper} (S : World → Prop) (sc : List (Bool × Nat)) (gs : List Nat) (hm : P.follows .mixedOrders = true)
    (hB : (Region.noSelect l.toArray && decide (sc.length = l.length) && scriptB .any l.toArray sc (Array.replicate l.toArray.size false) && (sc.all fun p => decide (p.2 < l.length))) = true) (hS : S w.drew)
    (h : ∀ OPS : Array Oper, gs.map (OPS[·]?) = gs.map (l[·]?) → wpScript P OPS S (Q .normal) (scOps l sc) a w.drew) : (Code.region id l.toArray true).wp P Q a w := by
  simp only [Bool.and_eq_true, decide_eq_true_eq] at hB
  obtain ⟨⟨⟨hsel, hn⟩, hB⟩, hlt⟩ := hB
  refine wp_region_any hm (wpAny_onlyN _ _ _ _ (wpAny_of_held (S := S) _ _ _ _ ?_))
  have := script_any (md := .any) (N := Q .normal) hsel sc (scOps l sc) _ a w.drew (scOps_map sc hlt) hB hS (h _ (by simp)) 0
  rw [Nat.add_zero, hn] at this
  simpa using this

theorem wanted_of {o og : Oper} {j d : Nat} {b want : Bool} {a : Act} (hg : o.guard = some (j, want)) (ho : ops[j]? = some og) (hd : og.dst = some d) (ht : a.tmps[d]? = some (.bool b)) : Region.wanted o (yielded ops a.tmps) = (b == want) := by
  unfold Region.wanted yielded
  rw [hg]
  simp only [ho, Option.bind_some, hd, ht]
  cases b <;> cases want <;> rfl
end

/-- An operation without its guard. -/
def bare (o : Oper) : Oper := { dst := o.dst, op := o.op, type := o.type, pos := o.pos, after := o.after, guard := none }
theorem bare_exec (e : Operand → Value) (o : Oper) : execOp e (bare o) = execOp e o := by
  unfold execOp bare
  rfl
theorem bare_wp {P : Program} {o : Oper} {a : Act} {w : World} {K : Act → World → Prop} {Q : Exit → Act → World → Prop} (h : (bare o).wp P a w K Q) : o.wp P a w K Q := by
  unfold Oper.wp at *
  rw [bare_exec] at h
  exact h
theorem sc_mustIf {P : Program} {ops : Array Oper} {S : World → Prop} {N : Act → World → Prop} {o : Oper} {r : List (Bool × Oper)} {a : Act} {w : World} (hw : Region.wanted o (yielded ops a.tmps) = true) (h : wpList P ops (OnlyN fun a' w' => S w' ∧ wpScript P ops S N r a' w') [bare o] a w) : wpScript P ops S N ((false, o) :: r) a w := by
  refine sc_must ?_
  unfold wpList at *
  rw [if_pos hw]
  rw [if_pos (show Region.wanted (bare o) (yielded ops a.tmps) = true from rfl)] at h
  rcases h with h | ⟨_, _, _, q⟩
  · exact .inl (bare_wp h)
  · exact (q : False).elim

end Go.Proofs.Qxb6608999a
