import Derived.Test.Qxb6615539aFmtBuild
import Derived.OrdersHeld
namespace Go.Proofs.Qxb6615539aFmt
open Go

/-! ## A region that draws its order: most of its operations only read, under one condition S on the world; the few others come in one order; S holds behind each -/
section
variable {P : Program} {ops : Array Oper} {md : Region.Mode} {S : World → Prop}

/-- 'N' at the plain end, nothing else. -/
def OnlyN (N : Act → World → Prop) : Exit → Act → World → Prop
  | .normal, a, w => N a w
  | _, _, _ => False

theorem onlyN_mk {N : Act → World → Prop} {a : Act} {w : World} (h : N a w) : OnlyN N .normal a w := h

theorem wp_onlyN {o : Oper} {a : Act} {w : World} {N K : Act → World → Prop} {Q : Exit → Act → World → Prop} (h : o.wp P a w K (OnlyN N)) : o.wp P a w K Q := by
  unfold Oper.wp at *
  generalize (execOp a.eval o).run P w = r at *
  cases r with
  | ok n w' =>
    cases n with
    | enter f args =>
      refine Calls.mono (h : Calls P f args w' _) fun e w'' he => ?_
      cases e with
      | returned v => exact he
      | panicked c => exact (he : False).elim
      | outgrown => obtain ⟨_, _, q⟩ := (he : LetsOut (OnlyN N)); exact (q : False).elim
    | value v => exact h
    | skip => exact h
    | defer d => exact h
    | _ => first | exact h | exact (h : False).elim
  | halt x w' => cases x <;> first | exact (h : False).elim | (obtain ⟨_, _, q⟩ := (h : LetsOut (OnlyN N)); exact (q : False).elim)

theorem wpOp_onlyN {i : Nat} {a : Act} {w : World} {N K : Act → World → Prop} {Q : Exit → Act → World → Prop} (h : wpOp P ops (OnlyN N) i K a w) : wpOp P ops Q i K a w := by
  unfold wpOp at *
  split
  · rename_i e; rw [e] at h; exact h
  · rename_i o e
    rw [e] at h
    simp only at h
    split
    · rename_i hw
      rw [if_pos hw] at h
      rcases h with h | ⟨_, _, _, q⟩
      · exact .inl (wp_onlyN h)
      · exact (q : False).elim
    · rename_i hw
      rw [if_neg hw] at h
      exact h

theorem wpAny_onlyN {Q : Exit → Act → World → Prop} : ∀ (f : Nat) (listed : Array Bool) (a : Act) (w : World), wpAny P md ops (OnlyN (Q .normal)) f listed a w → wpAny P md ops Q f listed a w
  | 0, _, _, _, h => h
  | f + 1, _, _, _, h => ⟨h.1, fun i hi => wpOp_onlyN (wpOp_mono (fun a' w' h' => wpAny_onlyN f _ a' w' h') (h.2 i hi))⟩

/-- The reads, one by one: each yields its value in every world that meets S. -/
def wpTake (P : Program) (ops : Array Oper) (S : World → Prop) (Q : Act → Prop) : List Oper → Act → Prop
  | [], a => Q a
  | o :: os, a => ∃ v, YieldsIf P ops S o v a ∧ wpTake P ops S Q os (a.put o.dst v)

theorem take_step {Q : Act → Prop} {o : Oper} {os : List Oper} {a : Act} (hg : o.guard = none) (v : Value) (h : ∀ w, S w → (execOp a.eval o).run P w = .ok (.value v) w) (hn : wpTake P ops S Q os (a.put o.dst v)) : wpTake P ops S Q (o :: os) a :=
  ⟨v, .inl ⟨by simp [Region.wanted, hg], h⟩, hn⟩
theorem take_nil {Q : Act → Prop} {a : Act} (h : Q a) : wpTake P ops S Q [] a := h

/-- The others, in their order. -/
def wpRest (P : Program) (ops : Array Oper) (S : World → Prop) (N : Act → World → Prop) : List Nat → Act → World → Prop
  | [], a, w => N a w
  | r :: rs, a, w => wpOp P ops (OnlyN N) r (fun a' w' => S w' ∧ wpRest P ops S N rs a' w') a w

theorem rest_step {N : Act → World → Prop} {r : Nat} {rs : List Nat} {o : Oper} {a : Act} {w : World} (hr : ops[r]? = some o)
    (h : wpList P ops (OnlyN fun a' w' => S w' ∧ wpRest P ops S N rs a' w') [o] a w) : wpRest P ops S N (r :: rs) a w := by
  show wpOp P ops (OnlyN N) r _ a w
  unfold wpList at h
  unfold wpOp
  simp only [hr]
  split
  · rename_i hw
    rw [if_pos hw] at h
    rcases h with h | ⟨_, _, _, q⟩
    · exact .inl (wp_onlyN (Oper.wp_mono (fun a' w' q => q) h))
    · exact (q : False).elim
  · rename_i hw
    rw [if_neg hw] at h
    exact h
theorem rest_nil {N : Act → World → Prop} {a : Act} {w : World} (h : N a w) : wpRest P ops S N [] a w := h

def restB (md : Region.Mode) (ops : Array Oper) : List Nat → Array Bool → Bool
  | [], listed => decide (Region.ready md ops listed = [])
  | r :: rs, listed => decide (Region.ready md ops listed = [r]) && restB md ops rs (listed.setIfInBounds r true)

def takeB (md : Region.Mode) (ops : Array Oper) (rs : List Nat) : List Nat → Array Bool → Bool
  | [], listed => restB md ops rs listed
  | j :: js, listed => (Region.ready md ops listed).contains j && Region.free md ops listed j && takeB md ops rs js (listed.setIfInBounds j true)

theorem rest_any {N : Act → World → Prop} : ∀ (rs : List Nat) (listed : Array Bool) (a : Act) (w : World), restB md ops rs listed = true → wpRest P ops S N rs a w → ∀ f, wpAnyH P md ops (OnlyN N) S (rs.length + f) listed a w
  | [], listed, a, w, hB, h, f => by
    have hr : Region.ready md ops listed = [] := by simpa [restB] using hB
    exact wpAnyH_done hr h _
  | r :: rs, listed, a, w, hB, h, f => by
    simp only [restB, Bool.and_eq_true, decide_eq_true_eq] at hB
    obtain ⟨hr, hB'⟩ := hB
    rw [show (r :: rs).length + f = (rs.length + f) + 1 by simp; omega]
    refine wpAnyH_all hr (by simp) fun i hi => ?_
    obtain rfl := List.mem_singleton.1 hi
    exact wpOp_mono (fun a' w' q => ⟨q.1, rest_any rs _ a' w' hB' q.2 f⟩) h

theorem take_any {N : Act → World → Prop} (hsel : Region.noSelect ops = true) {w : World} (hS : S w) (rs : List Nat) : ∀ (js : List Nat) (os : List Oper) (listed : Array Bool) (a : Act), os.map some = js.map (ops[·]?) → takeB md ops rs js listed = true →
    wpTake P ops S (fun a' => wpRest P ops S N rs a' w) os a → ∀ f, wpAnyH P md ops (OnlyN N) S (js.length + (rs.length + f)) listed a w
  | [], [], listed, a, _, hB, h, f => by
    have := rest_any (md := md) rs listed a w hB h f
    simpa using this
  | [], _ :: _, _, _, hm, _, _, _ => by simp at hm
  | _ :: _, [], _, _, hm, _, _, _ => by simp at hm
  | j :: js, o :: os, listed, a, hm, hB, h, f => by
    simp only [List.map_cons, List.cons.injEq] at hm
    simp only [takeB, Bool.and_eq_true] at hB
    obtain ⟨⟨hr, hf⟩, hB'⟩ := hB
    obtain ⟨v, hy, hn⟩ := h
    rw [show (j :: js).length + (rs.length + f) = (js.length + (rs.length + f)) + 1 by simp; omega]
    exact wpAnyH_take hm.1.symm hsel hf hr (fun c a w q => q) hy hS (take_any hsel hS rs js os _ _ hm.2 hB' hn f)

def floatB (ops : Array Oper) (js rs : List Nat) : Bool :=
  Region.noSelect ops && decide (js.length + rs.length = ops.size) && takeB .any ops rs js (Array.replicate ops.size false)

/-- THE LAW. -/
theorem wp_region_float {id : Nat} {Q : Exit → Act → World → Prop} {a : Act} {w : World} (S : World → Prop) (js rs : List Nat) (os : List Oper) (hm : P.follows .mixedOrders = true) (hB : floatB ops js rs = true) (hos : os.map some = js.map (ops[·]?)) (hS : S w.drew)
    (h : wpTake P ops S (fun a' => wpRest P ops S (Q .normal) rs a' w.drew) os a) : (Code.region id ops true).wp P Q a w := by
  simp only [floatB, Bool.and_eq_true, decide_eq_true_eq] at hB
  obtain ⟨⟨hsel, hn⟩, hB⟩ := hB
  refine wp_region_any hm (wpAny_onlyN _ _ _ _ (wpAny_of_held (S := S) _ _ _ _ ?_))
  have := take_any (md := .any) (N := Q .normal) hsel (w := w.drew) hS rs js os _ a hos hB h 0
  rw [Nat.add_zero, hn] at this
  exact this

def segs (l : List Oper) : List (Nat × Nat) → List Oper
  | [] => []
  | (d, n) :: r => (l.drop d).take n ++ segs l r
def segIdx : List (Nat × Nat) → List Nat
  | [] => []
  | (d, n) :: r => List.range' d n ++ segIdx r

def segB (l : List Oper) (sg : List (Nat × Nat)) : Bool := sg.all fun p => decide (p.1 + p.2 ≤ l.length)

theorem segs_map {l : List Oper} : ∀ (sg : List (Nat × Nat)), segB l sg = true → (segs l sg).map some = (segIdx sg).map (l.toArray[·]?)
  | [], _ => rfl
  | (d, n) :: r, h => by
    simp only [segB, List.all_cons, Bool.and_eq_true, decide_eq_true_eq] at h
    have hr := segs_map r h.2
    simp only [segs, segIdx, List.map_append, hr]
    congr 1
    refine List.ext_getElem? fun i => ?_
    simp only [List.getElem?_map, List.getElem?_take, List.getElem?_drop]
    by_cases hi : i < n
    · have : d + i < l.length := by omega
      simp [hi, this]
    · simp [hi]

theorem wp_region_floats {id : Nat} {Q : Exit → Act → World → Prop} {a : Act} {w : World} {l : List Oper} (S : World → Prop) (sg : List (Nat × Nat)) (rs : List Nat) (hm : P.follows .mixedOrders = true) (hB : (floatB l.toArray (segIdx sg) rs && segB l sg) = true) (hS : S w.drew)
    (h : wpTake P l.toArray S (fun a' => wpRest P l.toArray S (Q .normal) rs a' w.drew) (segs l sg) a) : (Code.region id l.toArray true).wp P Q a w := by
  rw [Bool.and_eq_true] at hB
  exact wp_region_float S (segIdx sg) rs (segs l sg) hm hB.1 (segs_map sg hB.2) hS h

/-- The same, the region's operations behind a letter. -/
theorem wp_region_floatl {id : Nat} {Q : Exit → Act → World → Prop} {a : Act} {w : World} {l : List Oper} (S : World → Prop) (sg : List (Nat × Nat)) (rs : List Nat) (hm : P.follows .mixedOrders = true) (hB : (floatB l.toArray (segIdx sg) rs && segB l sg) = true) (hS : S w.drew)
    (h : ∀ OPS : Array Oper, rs.map (OPS[·]?) = rs.map (l[·]?) → wpTake P OPS S (fun a' => wpRest P OPS S (Q .normal) rs a' w.drew) (segs l sg) a) : (Code.region id l.toArray true).wp P Q a w :=
  wp_region_floats S sg rs hm hB hS (h _ (by simp))
end
end Go.Proofs.Qxb6615539aFmt
