import Derived.Test.Qxb6615073aDoorInv3
namespace Go.Proofs.Qxb6615073aDoor
open Go.RowKit

/-- The state of a known lease: it is answered; the state of the records stands; the lease is judged if it is fenced. -/
def StInv (K : Cx) (X : Tx) (G : Nat → Prop) (ge L : Int) (N : Nat) (q : Bool) (m : Nat) (w : World) (e : Ending) (w' : World) : Prop :=
  ∃ st : Int, e = .returned (.int .i64 st) ∧ Inv K X G ge L (N + 1) q w' ∧ Fr K.B (fun b => b = X.T ∨ b = m) w w' ∧
    ∃ ch a n cp sb S ut jd en, MemRec m K.nm (X.E m).1 (X.E m).2 0 false ch (.slice a n cp) ut jd en w' ∧ StrsRow w' a sb n S ∧ (stateOf K.l K.d (X.E m).2 0 X.now = 2 → jd = true) ∧ (q = true → m = X.cur → ut = false)

section
variable {K : Cx} {X : Tx} {G : Nat → Prop} {ge L : Int} {N : Nat} {q : Bool} {w : World}

/-- What StatePost leaves, said of the whole state. -/
theorem Inv.stated (h : Inv K X G ge L N q w) {m : Nat} (hm : X.mems m) {ch : Int} {a : Option Addr} {n cp sb : Nat} {S : Nat → ByteArray} {ut jd : Bool} {e : Ending} {w' : World}
    (hS : StrsRow w a sb n S) (hq : q = true → m = X.cur → ut = false)
    (hp : StatePost K X.T m X.now ge (X.E m).1 (X.E m).2 K.nm ch (.slice a n cp) ut jd N w e w') : StInv K X G ge L N q m w e w' := by
  obtain ⟨he, hT, ⟨jd', en', hm', hj, _⟩, hf⟩ := hp
  obtain ⟨csm, hbm⟩ := (h.mem m hm).blk
  obtain ⟨csT, hbT⟩ := h.txn.blk
  have hR : RecAt K L w' := hf.keeps h.rec_ (fun e => by
    rcases e with e | e
    · exact ne_of_types h.rec_ hbT (by decide) e
    · exact ne_of_types h.rec_ hbm (by decide) e) (by decide)
  have hS' : StrsRow w' a sb n S := hS.kept (fun b cs hb => by
    rw [hb]
    refine hf.keeps hb (fun e => ?_) (by decide)
    rcases e with e | e
    · exact ne_of_types hb hbT (by decide) e
    · exact ne_of_types hb hbm (by decide) e)
  refine ⟨_, he, h.step (Y := fun b => b = X.T ∨ b = m) (fun a => Or.inl a) (fun b e => ?_) hf (Nat.le_succ _) hT hR (fun m' hm'' e => ?_) (fun b hg e => ?_), hf, ch, a, n, cp, sb, S, ut, jd', en', hm', hS', hj, hq⟩
  · rcases e with e | e
    · exact Or.inl e
    · subst e; exact Or.inr (Or.inr (Or.inl hm))
  · rcases e with e | e
    · obtain ⟨cs, hb⟩ := (h.mem m' hm'').blk
      exact absurd e (ne_of_types hb hbT (by decide))
    · subst e
      exact ⟨ch, a, n, cp, sb, S, ut, jd', en', hm', hS', Or.inr hj, hq⟩
  · obtain ⟨cs, hb⟩ := (h.rol b hg).blk
    rcases e with e | e
    · exact absurd e (ne_of_types hb hbT (by decide))
    · exact absurd e (ne_of_types hb hbm (by decide))

theorem state_inv (h : Inv K X G ge L N q w) {m : Nat} (hm : X.mems m) (hN : N < 1000000000) : Calls Tryd.prog 22 #[ptr X.T, ptr m] w (StInv K X G ge L N q m w) := by
  obtain ⟨ch, a, n, cp, sb, S, ut, jd, en, h1, h2, h3, h4⟩ := h.mem m hm
  by_cases hq : stateOf K.l K.d (X.E m).2 0 X.now = 2 → jd = true
  · exact (state_early K X.T m X.now ge L _ _ K.nm ch _ ut jd en N w h.txn h.rec_ h1 hq).mono fun e w' hp => h.stated hm h2 h4 hp
  · have hc : m = X.cur := h3.resolve_right hq
    have h2' : stateOf K.l K.d (X.E m).2 0 X.now = 2 := Classical.byContradiction fun c => hq (fun e => absurd e c)
    have hj : jd = false := by
      cases jd with
      | true => exact absurd (fun _ => rfl) hq
      | false => rfl
    subst hj
    refine (state_due K X.T m X.now ge L _ _ ch _ ut en N w h.txn h.rec_ h1 (by rw [hc]; exact h.mapM) h.nm h2' h.base hN).mono fun e w' hp => h.stated hm h2 h4 hp
end

/-! ## 44: heldIn -/
set_option maxRecDepth 100000 in
theorem heldIn_any (r : Nat) (st now u : Int) (w : World) (h3 : w.cell? ⟨r, 3, none⟩ = some (.int .i64 u)) : Calls Tryd.prog 44 #[ptr r, .int .i64 st, .int .i64 now] w (BytesPost w) := by
  unfold ptr
  by_cases a2 : st = 2
  · subst a2
    go_enter Tryd.func44, Tryd.ntmps44
    go_wp2_with (go_at_call 23; refine (over_any _ _).mono ?_; rintro e w' ⟨rfl, rfl⟩)
    go_ret
    exact ⟨_, rfl, rfl⟩
  · by_cases a3 : st = 3
    · subst a3
      go_enter Tryd.func44, Tryd.ntmps44
      go_wp2_with (go_at_call 23; refine (over_any _ _).mono ?_; rintro e w' ⟨rfl, rfl⟩)
      go_ret
      exact ⟨_, rfl, rfl⟩
    · have b2 : (st == 2) = false := by simp [a2]
      have b3 : (st == 3) = false := by simp [a3]
      go_enter Tryd.func44, Tryd.ntmps44
      go_wp2_with (go_at_call 23; refine (over_any _ _).mono ?_; rintro e w' ⟨rfl, rfl⟩)
      go_ret
      exact ⟨_, rfl, rfl⟩

/-! ## 35: heldAt -/
/-- Some bool; k events at most; the state stands. -/
def BoolInv (k : Nat) (K : Cx) (X : Tx) (G : Nat → Prop) (ge L : Int) (N : Nat) (q : Bool) (w : World) (e : Ending) (w' : World) : Prop :=
  ∃ r : Bool, e = .returned (.bool r) ∧ Inv K X G ge L (N + k) q w' ∧ Fr K.B (fun b => b = X.T ∨ X.mems b) w w'

theorem Inv.more {K : Cx} {X : Tx} {G : Nat → Prop} {ge L : Int} {N N' : Nat} {q : Bool} {w : World} (h : Inv K X G ge L N q w) (hN : N ≤ N') : Inv K X G ge L N' q w := by
  obtain ⟨cs, hb⟩ := h.txn.blk
  exact h.step (Y := fun _ => False) (fun a => Or.inl a) (fun _ e => e.elim) (Fr.refl _ _ _) hN (h.txn.mono hN) h.rec_ (fun _ _ e => e.elim) (fun _ _ e => e.elim)

set_option maxRecDepth 100000 in
set_option maxHeartbeats 1000000 in
theorem heldAt_any {K : Cx} {X : Tx} {G : Nat → Prop} {ge L : Int} {N : Nat} {q : Bool} {w : World} (h : Inv K X G ge L N q w) {r : Nat} (hr : G r) (hN : N < 1000000000) :
    Calls Tryd.prog 35 #[ptr X.T, ptr r] w (BoolInv 1 K X G ge L N q w) := by
  obtain ⟨ho, ep, ch, u, hb, hh⟩ := h.rol r hr
  have r0 : w.cell? ⟨r, 0, none⟩ = some ho := by rw [cell_of hb]; rfl
  have r3 : w.cell? ⟨r, 3, none⟩ = some (.int .i64 u) := by rw [cell_of hb]; rfl
  have t1 := h.txn.c1
  have H : Hid (Inv K X G ge L N q w) := h
  have HB : Hid (w.heap[r]? = some (.cells #[ho, .int .i64 ep, .int .u64 ch, .int .i64 u, .pointer none] 108 (0, 0))) := hb
  clear h hb
  rcases hh with rfl | ⟨m, hm, rfl⟩
  · unfold ptr
    go_enter Tryd.func35, Tryd.ntmps35
    go_wp2
    go_quiet (fail)
    go_wp2
    go_ret
    exact ⟨false, rfl, (H.out.more (Nat.le_succ _)).drewN _, (Fr.refl _ _ _).drewN _⟩
  · have hne : Hid (¬ (r = X.T ∨ r = m)) := by
      obtain ⟨c1, e1⟩ := H.out.txn.blk
      obtain ⟨c2, e2⟩ := (H.out.mem m hm).blk
      rintro (e | e)
      · exact ne_of_types HB.out e1 (by decide) e
      · exact ne_of_types HB.out e2 (by decide) e
    unfold ptr at *
    go_enter Tryd.func35, Tryd.ntmps35
    go_wp2_with fail
    go_region_held3 (fun w' => w'.cell? ⟨r, 0, none⟩ = some (.pointer (some ⟨m, 0, none⟩)) ∧ w'.cell? ⟨r, 3, none⟩ = some (.int .i64 u) ∧ w'.cell? ⟨X.T, 1, none⟩ = some (.int .i64 X.now))
      (first | exact ⟨r0, r3, t1⟩ | exact ⟨cell_same D r0, cell_same D r3, hi.txn.c1⟩)
      (first | (go_at_call 22; refine (state_inv (w := w.drew) H.out.drew hm hN).mono ?_; rintro e w1 ⟨st, rfl, hi, hf, _⟩; have D : w1.heap[r]? = w.heap[r]? := (hf.keeps (w := w.drew) HB.out hne.out (by decide)).trans HB.out.symm) | (go_at_call 44; refine (heldIn_any r st X.now u _ (cell_same D r3)).mono ?_; rintro e w2 ⟨bb, rfl, rfl⟩))
    go_wp2
    go_ret
    exact ⟨_, rfl, hi, (Fr.undrew hf).mono (fun b e => orMap id (fun e => by subst e; exact hm) e)⟩

/-! ## 43: standsFor -/
set_option maxRecDepth 100000 in
set_option maxHeartbeats 1000000 in
theorem standsFor_any {K : Cx} {X : Tx} {G : Nat → Prop} {ge L : Int} {N : Nat} {q : Bool} {w : World} (h : Inv K X G ge L N q w) {m : Nat} (hm : X.mems m) (s : ByteArray) (hN : N < 1000000000) :
    Calls Tryd.prog 43 #[ptr X.T, ptr m, .string s] w (BoolInv 1 K X G ge L N q w) := by
  obtain ⟨ch, a, n, cp, sb, S, ut, jd, en, h1, h2, h3, h4⟩ := h.mem m hm
  have m6 : w.cell? ⟨m, 6, none⟩ = some (.slice a n cp) := by rw [cell_of h1]; rfl
  have H : Hid (Inv K X G ge L N q w) := h
  have hn : n ≤ 9223372036854775807 := by have := h2.2.2; omega
  have HS : Hid (StrsIn w a sb 0 n S) := h2.in_
  clear h h1 h2 h3 h4
  unfold ptr at *
  go_enter Tryd.func43, Tryd.ntmps43
  go_wp2_with fail
  refine (contains_any a sb 0 n cp S s _ hn HS.out).mono ?_
  rintro e w1 ⟨bb, rfl, rfl⟩
  cases bb
  · go_wp2
    go_ret
    exact ⟨_, rfl, H.out.more (Nat.le_succ _), Fr.refl _ _ _⟩
  · go_wp2_with (go_at_call 22; refine (state_inv H.out hm hN).mono ?_; rintro e w1 ⟨st, rfl, hi, hf, _⟩)
    go_ret
    exact ⟨_, rfl, hi, hf.mono (fun b e => orMap id (fun e => by subst e; exact hm) e)⟩
end Go.Proofs.Qxb6615073aDoor
