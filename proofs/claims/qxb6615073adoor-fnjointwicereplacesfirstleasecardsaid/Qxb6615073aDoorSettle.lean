import Derived.Test.Qxb6615073aDoorHeld
import Derived.Test.Qxb6615073aDoorSeg
namespace Go.Proofs.Qxb6615073aDoor
open Go.RowKit
open Go.ChangeMaps (setBlock)

theorem onlyN_mk {N : Act → World → Prop} {a : Act} {w : World} (h : N a w) : OnlyN N .normal a w := h

/-! ## The range over the members: one entry -/
/-- The iterator over the members: fresh, or done. -/
def IterAt (K : Cx) (r : Nat) (fresh : Bool) (cur : Nat) (w : World) : Prop :=
  ∃ born ck, w.heap[K.M]? = some (.map #[⟨.string K.nm, ptr cur, born⟩] ck) ∧ born < ck ∧ w.heap[r]? = some (.mapIter (some K.M) ck (if fresh then #[] else #[born]) ck)

theorem range_members {K : Cx} {cur : Nat} {w : World} (h : MembersAt K cur w) : ∃ w', (Instr.range 49 (.map (some K.M))).run Tryd.prog w = .ok (.pointer (some ⟨w.heap.size, 0, none⟩)) w' ∧ IterAt K w.heap.size true cur w' ∧ Below w.heap.size w w' ∧ w'.heap.size = w.heap.size + 1 := by
  have hlt := h.lt
  obtain ⟨born, ck, hb, F⟩ := h
  refine ⟨_, run_range_map w 49 9 71 K.M _ ck Tryd.underlying49 hb, ⟨born, ck, ?_, F.stamped.1 ⟨.string K.nm, ptr cur, born⟩ (by simp), Go.Deep.blk_alloc_new _ _⟩, (Below.refl _ _).alloc (Nat.le_refl _) _, by simp⟩
  rw [Go.Deep.blk_alloc_lt _ _ _ hlt]
  exact hb

theorem next_fresh {K : Cx} {r cur : Nat} {w : World} (h : IterAt K r true cur w) (hne : r ≠ K.M) (ty : TypeId) :
    ∃ w', (Instr.next (.pointer (some ⟨r, 0, none⟩)) false ty).run Tryd.prog w = .ok (.tuple #[.bool true, .string K.nm, ptr cur]) w' ∧ (Instr.entry (.pointer (some ⟨r, 0, none⟩))).run Tryd.prog w' = .ok (.tuple #[.string K.nm, ptr cur]) w' ∧
      IterAt K r false cur w' ∧ w'.heap.size = w.heap.size ∧ w'.os = w.os ∧ w'.tape = w.tape ∧ w'.output = w.output ∧ ∀ b, b ≠ r → w'.heap[b]? = w.heap[b]? := by
  obtain ⟨born, ck, hb, hlt, hr⟩ := h
  have hrlt : r < w.heap.size := lt_of_heap hr
  rcases run_next_at (P := Tryd.prog) w ty r K.M ck ck #[] _ ck hr hb (by intro x hx; simp at hx; subst hx; exact hlt) (Nat.le_refl _) with ⟨h0, _⟩ | ⟨e, he, w1, hal, hrun⟩
  · simp [leftOf] at h0
  · have he' : e = ⟨.string K.nm, ptr cur, born⟩ := by simpa [leftOf] using he
    subst he'
    have hh : w1.heap = w.heap := by rcases hal with rfl | rfl <;> rfl
    have hr1 : (setBlock w1 r (.mapIter (some K.M) ck (#[].push born) ck)).heap[r]? = some (.mapIter (some K.M) ck (#[].push born) ck) := by
      simp [setBlock, hh, hrlt]
    have hm1 : (setBlock w1 r (.mapIter (some K.M) ck (#[].push born) ck)).heap[K.M]? = some (.map #[⟨.string K.nm, ptr cur, born⟩] ck) := by
      simp only [setBlock, hh]
      rw [Array.getElem?_setIfInBounds_ne hne]
      exact hb
    refine ⟨_, hrun, run_entry_at _ r K.M ck #[] _ ck ⟨.string K.nm, ptr cur, born⟩ hr1 hm1 (by simp) (by simp), ⟨born, ck, hm1, hlt, hr1⟩, by simp [setBlock, hh], ?_, ?_, ?_, fun b hbr => ?_⟩
    · rcases hal with rfl | rfl <;> rfl
    · rcases hal with rfl | rfl <;> rfl
    · rcases hal with rfl | rfl <;> rfl
    · simp only [setBlock, hh]
      rw [Array.getElem?_setIfInBounds_ne (Ne.symm hbr)]

theorem next_done {K : Cx} {r cur : Nat} {w : World} (h : IterAt K r false cur w) (ty : TypeId) : (Instr.next (.pointer (some ⟨r, 0, none⟩)) false ty).run Tryd.prog w = .ok (.tuple #[.bool false]) w := by
  obtain ⟨born, ck, hb, hlt, hr⟩ := h
  rcases run_next_at (P := Tryd.prog) w ty r K.M ck ck #[born] _ ck hr hb (by intro x hx; simp at hx; subst hx; exact hlt) (Nat.le_refl _) with ⟨h0, h1⟩ | ⟨e, he, _⟩
  · exact h1
  · simp [leftOf] at he

theorem Fr.keepsIter {B : Nat} {Y : Nat → Prop} {w w' : World} (h : Fr B Y w w') {b : Nat} {mp : Option Nat} {s : Nat} {sn : Array Nat} {st : Nat} (hb : w.heap[b]? = some (.mapIter mp s sn st)) (hY : ¬ Y b) : w'.heap[b]? = some (.mapIter mp s sn st) := by
  rw [h.block b (lt_of_heap hb) hY (Or.inr (fun cs' fr e => by rw [hb] at e; simp at e))]
  exact hb

def iterLeft (r : Nat) (w : World) : Nat := match w.heap[r]? with | some (.mapIter _ _ seen _) => 1 - seen.size | _ => 0

theorem iterLeft_of {K : Cx} {r cur : Nat} {fresh : Bool} {w : World} (h : IterAt K r fresh cur w) : iterLeft r w = if fresh then 1 else 0 := by
  obtain ⟨born, ck, _, _, hr⟩ := h
  unfold iterLeft
  rw [hr]
  cases fresh <;> simp

section
variable {K : Cx} {X : Tx} {G : Nat → Prop} {ge L : Int} {N : Nat} {q : Bool} {w : World}

/-- A step that turns members and the txn alone leaves the iterator. -/
theorem IterAt.kept {r : Nat} {fresh : Bool} {w' : World} (h : IterAt K r fresh X.cur w) (hi : Inv K X G ge L N q w) {Y : Nat → Prop} (hY : ∀ b, Y b → Touch K X G b) (hf : Fr K.B Y w w') : IterAt K r fresh X.cur w' := by
  obtain ⟨born, ck, hb, hlt, hr⟩ := h
  refine ⟨born, ck, hf.keepsMap hb (fun y => ?_), hlt, hf.keepsIter hr (fun y => ?_)⟩
  · obtain ⟨cs, t, e, _⟩ := hi.touch_type (hY _ y)
    rw [hb] at e
    simp at e
  · obtain ⟨cs, t, e, _⟩ := hi.touch_type (hY _ y)
    rw [hr] at e
    simp at e

theorem set_other {w : World} {a b i : Nat} {v : Value} (h : b ≠ a) : (w.setCell ⟨a, i, none⟩ v).heap[b]? = w.heap[b]? := Go.Deep.blk_setCell_other _ _ _ _ h
theorem fr_set {B a i : Nat} {w : World} {v : Value} : Fr B (· = a) w (w.setCell ⟨a, i, none⟩ v) := (Fr.refl B (· = a) w).setCell (a := ⟨a, i, none⟩) (Or.inl rfl) v

theorem Inv.setHolder (h : Inv K X G ge L N q w) {r m : Nat} (hr : G r) (hm : X.mems m) : Inv K X G ge L N q (w.setCell ⟨r, 0, none⟩ (ptr m)) := by
  obtain ⟨ho, e, ch, u, hb, _⟩ := h.rol r hr
  exact h.rolStore hr fr_set (fun b hb => set_other hb) ⟨ptr m, e, ch, u, heap_set hb 0 (ptr m), Or.inr ⟨m, hm, rfl⟩⟩
theorem Inv.setEpoch (h : Inv K X G ge L N q w) {r : Nat} (hr : G r) (x : Int) : Inv K X G ge L N q (w.setCell ⟨r, 1, none⟩ (.int .i64 x)) := by
  obtain ⟨ho, e, ch, u, hb, hh⟩ := h.rol r hr
  exact h.rolStore hr fr_set (fun b hb => set_other hb) ⟨ho, x, ch, u, heap_set hb 1 (.int .i64 x), hh⟩
theorem Inv.setChange (h : Inv K X G ge L N q w) {r : Nat} (hr : G r) (x : Int) : Inv K X G ge L N q (w.setCell ⟨r, 2, none⟩ (.int .u64 x)) := by
  obtain ⟨ho, e, ch, u, hb, hh⟩ := h.rol r hr
  exact h.rolStore hr fr_set (fun b hb => set_other hb) ⟨ho, e, x, u, heap_set hb 2 (.int .u64 x), hh⟩
theorem Inv.setUntold (h : Inv K X G ge L N q w) (x : Bool) : Inv K X G ge L N (!x) (w.setCell ⟨X.cur, 8, none⟩ (.bool x)) := by
  obtain ⟨ch, a, n, cp, sb, S, ut, jd, en, h1, h2, h3, h4⟩ := h.mem X.cur h.curIn
  refine h.memStore (q' := !x) (fun _ => Or.inr rfl) h.curIn fr_set (fun b hb => set_other hb) ⟨ch, a, n, cp, sb, S, x, jd, en, heap_set h1 8 (.bool x), h2.kept (fun b cs hb => set_other (ne_of_types hb h1 (by decide))), h3, fun hx _ => by simpa using hx⟩

theorem Inv.rolCells (h : Inv K X G ge L N q w) {r : Nat} (hr : G r) : ∃ ho e ch u, w.cell? ⟨r, 0, none⟩ = some ho ∧ w.cell? ⟨r, 1, none⟩ = some (.int .i64 e) ∧ w.cell? ⟨r, 2, none⟩ = some (.int .u64 ch) ∧ w.cell? ⟨r, 3, none⟩ = some (.int .i64 u) ∧ w.cell? ⟨r, 4, none⟩ = some (.pointer none) ∧
    w.frozen? ⟨r, 0, none⟩ = false ∧ w.frozen? ⟨r, 1, none⟩ = false ∧ w.frozen? ⟨r, 2, none⟩ = false ∧ (ho = .pointer none ∨ ∃ m, X.mems m ∧ ho = ptr m) := by
  obtain ⟨ho, e, ch, u, hb, hh⟩ := h.rol r hr
  exact ⟨ho, e, ch, u, by rw [cell_of hb]; rfl, by rw [cell_of hb]; rfl, by rw [cell_of hb]; rfl, by rw [cell_of hb]; rfl, by rw [cell_of hb]; rfl, frozen_of hb 0, frozen_of hb 1, frozen_of hb 2, hh⟩
theorem Inv.memCells (h : Inv K X G ge L N q w) {m : Nat} (hm : X.mems m) : ∃ ch a n cp ut, w.cell? ⟨m, 0, none⟩ = some (.string K.nm) ∧ w.cell? ⟨m, 1, none⟩ = some (.int .i64 (X.E m).1) ∧ w.cell? ⟨m, 5, none⟩ = some (.int .u64 ch) ∧ w.cell? ⟨m, 6, none⟩ = some (.slice a n cp) ∧
    w.cell? ⟨m, 8, none⟩ = some (.bool ut) ∧ w.frozen? ⟨m, 8, none⟩ = false := by
  obtain ⟨ch, a, n, cp, sb, S, ut, jd, en, hb, h2, h3, h4⟩ := h.mem m hm
  exact ⟨ch, a, n, cp, ut, by rw [cell_of hb]; rfl, by rw [cell_of hb]; rfl, by rw [cell_of hb]; rfl, by rw [cell_of hb]; rfl, by rw [cell_of hb]; rfl, frozen_of hb 8⟩

theorem Inv.ne_rm (h : Inv K X G ge L N q w) {r m : Nat} (hr : G r) (hm : X.mems m) : r ≠ m := by
  obtain ⟨c1, e1⟩ := (h.rol r hr).blk
  obtain ⟨c2, e2⟩ := (h.mem m hm).blk
  exact ne_of_types e1 e2 (by decide)
theorem Inv.ne_rc (h : Inv K X G ge L N q w) {r : Nat} (hr : G r) : r ≠ K.c := by
  obtain ⟨c1, e1⟩ := (h.rol r hr).blk
  exact ne_of_types e1 h.rec_ (by decide)
end

/-- What settle hands back: a known lease, or none; at most one epoch more; four events at most. -/
def SettlePost (K : Cx) (X : Tx) (G : Nat → Prop) (ge L : Int) (N : Nat) (w : World) (e : Ending) (w' : World) : Prop :=
  ∃ (v : Value) (L' : Int), e = .returned v ∧ (v = .pointer none ∨ ∃ m, X.mems m ∧ v = ptr m) ∧ L ≤ L' ∧ L' ≤ L + 1 ∧ Inv K X G ge L' (N + 4) false w' ∧ Fr K.B (Touch K X G) w w'

theorem Inv.weaken {K : Cx} {X : Tx} {G : Nat → Prop} {ge L : Int} {N : Nat} {q : Bool} {w : World} (h : Inv K X G ge L N q w) : Inv K X G ge L N false w :=
  h.step (Y := fun _ => False) (fun a => by cases a) (fun _ e => e.elim) (Fr.refl _ _ _) (Nat.le_refl _) h.txn h.rec_ (fun _ _ e => e.elim) (fun _ _ e => e.elim)

theorem settle_fr {K : Cx} {X : Tx} {G : Nat → Prop} {w w1 wr : World} (h1 : Fr K.B (fun b => b = X.T ∨ X.mems b) w w1) (h2 : Fr K.B (fun b => b = X.T ∨ X.mems b ∨ b = w1.heap.size) w1 wr) : Fr K.B (Touch K X G) w wr :=
  h1.trans h2 (fun _ y => y.elim Or.inl (fun y => Or.inr (Or.inr (Or.inl y)))) (fun b hb y => by
    rcases y with y | y | y
    · exact Or.inl y
    · exact Or.inr (Or.inr (Or.inl y))
    · have := h1.size; omega)

/-- The loop over the members under way. -/
def LoopAt (K : Cx) (X : Tx) (G : Nat → Prop) (ge L : Int) (N : Nat) (q : Bool) (r : Nat) (w : World) (nx : Value) (wr : World) : Prop :=
  ∃ fresh : Bool, IterAt K r fresh X.cur wr ∧ Inv K X G ge L (if fresh then N else N + 1) q wr ∧ (nx = .pointer none ∨ (fresh = false ∧ nx = ptr X.cur)) ∧ Fr K.B (fun b => b = X.T ∨ X.mems b ∨ b = r) w wr

set_option maxRecDepth 100000 in
set_option maxHeartbeats 2000000 in
theorem settle_any {K : Cx} {X : Tx} {G : Nat → Prop} {ge L : Int} {N : Nat} {q : Bool} {w : World} (h : Inv K X G ge L N q w) {r : Nat} (hr : G r) (s : ByteArray) (hN : N < 1000000) (hL : -9223372036854775808 ≤ L ∧ L < 9223372036854775807) :
    Calls Tryd.prog 34 #[ptr X.T, .string s, ptr r] w (SettlePost K X G ge L N w) := by
  obtain ⟨ho, ep, ch, u, hb, hh⟩ := h.rol r hr
  have r4 : w.cell? ⟨r, 4, none⟩ = some (.pointer none) := by rw [cell_of hb]; rfl
  have H : Hid (Inv K X G ge L N q w) := h
  clear h hb hh
  unfold ptr at *
  go_enter Tryd.func34, Tryd.ntmps34
  go_wp2_with fail
  refine (heldAt_any H.out hr (by omega)).mono ?_
  rintro e w1 ⟨bb, rfl, hi, hf⟩
  cases bb
  · obtain ⟨w2, e1, e2, e3, e4⟩ := range_members hi.mapM
    have c6 := hi.rec_.c6
    have t0 : w1.cell? ⟨X.T, 0, none⟩ = some (.pointer (some ⟨K.c, 0, none⟩)) := hi.txn.c0
    have HI : Hid (Inv K X G ge L (N + 1) q w1) := hi
    have HF : Hid (Fr K.B (fun b => b = X.T ∨ X.mems b) w w1) := hf
    clear hi hf
    go_wp2
    have HN : Hid (w1.heap.size ≠ K.M) := fun e => by have := HI.out.mapM.lt; omega
    go_loopw [10] (fun nx wr => LoopAt K X G ge L (N + 1) q w1.heap.size w1 nx wr) (fun _ wr => iterLeft w1.heap.size wr)
    case atStart => exact ⟨true, e2, HI.out.below e3, Or.inl rfl, Fr.of_below e3⟩
    case round =>
      obtain ⟨fresh, hit, hinv, hnx, hfr⟩ := hrel
      cases fresh
      · have hdn := next_done hit
        have ZR : Hid (Inv K X G ge L (N + 1 + 1) q wr) := hinv
        have FR : Hid (Fr K.B (fun b => b = X.T ∨ X.mems b ∨ b = w1.heap.size) w1 wr) := hfr
        clear hinv hfr hit
        rcases hnx with rfl | ⟨_, rfl⟩
        · go_wp2
          go_ret
          exact ⟨_, L, rfl, Or.inl rfl, Int.le_refl _, by omega, (ZR.out.more (by omega)).weaken, settle_fr HF.out FR.out⟩
        · obtain ⟨ho, e0, ch0, u0, r0, r1, r2, r3, r4', f0, f1, f2, _⟩ := ZR.out.rolCells hr
          have ZA : Hid (Inv K X G ge L (N + 1 + 1) q (wr.setCell ⟨r, 0, none⟩ (.pointer (some ⟨X.cur, 0, none⟩)))) := ZR.out.setHolder hr ZR.out.curIn
          unfold ptr
          go_wp2_with fail
          refine (next_any K X.T X.now ge L (N + 1 + 1) _ ZA.out.txn ZA.out.rec_ hL).mono ?_
          rintro e w5 ⟨rfl, hR5, hs5, hf5, hk5⟩
          have Z5 : Hid (Inv K X G ge (L + 1) (N + 1 + 1) q w5) := ZA.out.nexted hR5 hk5 hf5
          have F5 : Hid (Fr K.B (Touch K X G) w w5) := ((settle_fr HF.out FR.out).trans fr_set (fun _ y => y) (fun b _ y => by subst y; exact Or.inr (Or.inr (Or.inr hr)))).trans hf5 (fun _ y => y) (fun b _ y => Or.inr (Or.inl y))
          clear hR5 hs5 hf5 hk5 r0 r1 r2 r3 r4' f0 f1 f2
          obtain ⟨ho, e0, ch0, u0, r0, r1, r2, r3, r4', f0, f1, f2, _⟩ := Z5.out.rolCells hr
          obtain ⟨ch5, a5, n5, cp5, ut5, m0, m1, m5, m6, m8, g8⟩ := Z5.out.memCells Z5.out.curIn
          have hrc : r ≠ X.cur := Z5.out.ne_rm hr Z5.out.curIn
          have hcr := hrc.symm
          generalize hC : IntKind.u64.wrap (K.C0 + (L + 1 - K.L0)) = C at *
          go_wp2
          obtain ⟨W, hW⟩ : ∃ W, W = ((w5.setCell ⟨r, 1, none⟩ (.int .i64 (L + 1))).setCell ⟨r, 2, none⟩ (.int .u64 C)).setCell ⟨X.cur, 8, none⟩ (.bool true) := ⟨_, rfl⟩
          rw [← hW]
          have Z6 : Hid (Inv K X G ge (L + 1) (N + 1 + 1) false W) := by rw [hW]; exact ((Z5.out.setEpoch hr (L + 1)).setChange hr C).setUntold true
          have F6 : Hid (Fr K.B (Touch K X G) w W) := by
            rw [hW]
            exact ((F5.out.trans fr_set (fun _ y => y) (fun b _ y => by subst y; exact Or.inr (Or.inr (Or.inr hr)))).trans fr_set (fun _ y => y) (fun b _ y => by subst y; exact Or.inr (Or.inr (Or.inr hr)))).trans fr_set (fun _ y => y) (fun b _ y => by subst y; exact Or.inr (Or.inr (Or.inl Z5.out.curIn)))
          clear hW r0 r1 r2 r3 r4' f0 f1 f2 m0 m1 m5 m6 m8 g8 hC
          obtain ⟨ho6, e6, ch6, u6, r0, r1, r2, r3, r4', f0, f1, f2, _⟩ := Z6.out.rolCells hr
          obtain ⟨ch7, a7, n7, cp7, ut7, m0, m1, m5, m6, m8, g8⟩ := Z6.out.memCells Z6.out.curIn
          refine wp_region_quiet_tail 12 (by kernel_rfl) (by kernel_rfl) ?_
          simp only [List.take_succ_cons, List.take_zero, List.drop_succ_cons, List.drop_zero]
          repeat (go_big_quiet_step (fail))
          refine wpQuiet_nil ?_
          go_wp2_with fail
          refine (emit_any K X.T X.now ge (N + 1 + 1) W.drew _ _ Z6.out.txn Z6.out.base (by omega)).mono ?_
          rintro e w7 ⟨rfl, hT7, hf7⟩
          have Z7 : Hid (Inv K X G ge (L + 1) (N + 1 + 1 + 1) false w7) := Z6.out.emitted hT7 (Fr.undrew hf7)
          have F7 : Hid (Fr K.B (Touch K X G) w w7) := F6.out.trans (Fr.undrew hf7) (fun _ y => y) (fun b _ y => Or.inl y)
          clear hT7 hf7 r0 r1 r2 r3 r4' f0 f1 f2 m0 m1 m5 m6 m8 g8
          obtain ⟨ch7, a7, n7, cp7, ut7, m0, m1, m5, m6, m8, g8⟩ := Z7.out.memCells Z7.out.curIn
          go_wp2_with fail
          refine (emit_any K X.T X.now ge (N + 1 + 1 + 1) w7 _ _ Z7.out.txn Z7.out.base (by omega)).mono ?_
          rintro e w8 ⟨rfl, hT8, hf8⟩
          have Z8 : Hid (Inv K X G ge (L + 1) (N + 4) false w8) := Z7.out.emitted hT8 hf8
          have F8 : Hid (Fr K.B (Touch K X G) w w8) := F7.out.trans hf8 (fun _ y => y) (fun b _ y => Or.inl y)
          clear hT8 hf8
          go_wp2
          go_ret
          exact ⟨_, L + 1, rfl, Or.inr ⟨X.cur, Z8.out.curIn, rfl⟩, by omega, by omega, Z8.out, F8.out⟩
      · obtain ⟨w3, d1, d2, d3, d4, d5, d6, d7, d8⟩ := next_fresh hit HN.out 0
        obtain rfl : u10 = .pointer none := by rcases hnx with h | ⟨h, _⟩; exact h; cases h
        have hi3 : Inv K X G ge L (N + 1) q w3 := hinv.same (by omega) (fun b _ hn => d8 b (fun e => by subst e; obtain ⟨_, _, _, _, e⟩ := hit; exact hn _ _ _ _ e))
        have H3 : Hid (Inv K X G ge L (N + 1) q w3 ∧ IterAt K w1.heap.size false X.cur w3) := ⟨hi3, d3⟩
        clear hi3 d3
        unfold ptr at *
        go_wp2
        refine wp_region_barrier 3 (by kernel_rfl) (by kernel_rfl) ?_
        simp only [List.take_succ_cons, List.take_zero, List.drop_succ_cons, List.drop_zero]
        repeat (go_big_quiet_step (fail))
        refine wpQuiet_nil ?_
        go_wp2_with (go_at_call 43; refine (standsFor_any (w := w3.drew) H3.out.1.drew H3.out.1.curIn s (by omega)).mono ?_; rintro e w4 ⟨bb, rfl, hi4, hf4⟩)
        refine onlyN_mk ?_
        show wpQuiet _ _ _ _ _ _
        have Z : Hid (Inv K X G ge L (N + 2) q w4 ∧ IterAt K w1.heap.size false X.cur w4 ∧ Fr K.B (fun b => b = X.T ∨ X.mems b ∨ b = w1.heap.size) w1 w4 ∧ iterLeft w1.heap.size wr = 1) := by
          have hf4' := Fr.undrew hf4
          refine ⟨hi4, H3.out.2.kept H3.out.1 (fun b y => y.elim Or.inl (fun y => Or.inr (Or.inr (Or.inl y)))) hf4', ?_, iterLeft_of hit⟩
          have f3 : Fr K.B (fun b => b = X.T ∨ X.mems b ∨ b = w1.heap.size) wr w3 := ⟨d5, d6, d7, by omega, fun b hb hy _ => d8 b (fun e => hy (Or.inr (Or.inr e)))⟩
          exact (hfr.trans f3 (fun _ y => y) (fun _ _ y => y)).trans hf4' (fun _ y => y) (fun _ _ y => y.elim Or.inl (fun y => Or.inr (Or.inl y)))
        clear hi4 hf4 hinv hit hfr d8
        cases bb
        · repeat (go_big_quiet_step (fail))
          refine wpQuiet_nil ?_
          intro v hv
          obtain ⟨nq, rfl⟩ := hv
          go_wp2
          go_roundw
          case rel => exact ⟨false, Z.out.2.1, Z.out.1.drewN nq, Or.inl rfl, Z.out.2.2.1.drewN nq⟩
          case measure => rw [Z.out.2.2.2]; exact Nat.lt_of_le_of_lt (Nat.le_of_eq (iterLeft_of (w := w4.drewN nq) Z.out.2.1)) (by decide)
        · repeat (go_big_quiet_step (fail))
          refine wpQuiet_nil ?_
          intro v hv
          obtain ⟨nq, rfl⟩ := hv
          go_wp2
          go_roundw
          case rel => exact ⟨false, Z.out.2.1, Z.out.1.drewN nq, Or.inr ⟨rfl, rfl⟩, Z.out.2.2.1.drewN nq⟩
          case measure => rw [Z.out.2.2.2]; exact Nat.lt_of_le_of_lt (Nat.le_of_eq (iterLeft_of (w := w4.drewN nq) Z.out.2.1)) (by decide)
  · obtain ⟨ho, ep, ch, u, hb, hh⟩ := hi.rol r hr
    have r0 : w1.cell? ⟨r, 0, none⟩ = some ho := by rw [cell_of hb]; rfl
    have HI : Hid (Inv K X G ge L (N + 1) q w1) := hi
    have HF : Hid (Fr K.B (fun b => b = X.T ∨ X.mems b) w w1) := hf
    clear hb hi hf
    go_wp2
    go_ret
    exact ⟨_, L, rfl, hh, Int.le_refl _, by omega, (HI.out.more (by omega)).weaken, HF.out.mono (fun _ y => y.elim Or.inl (fun y => Or.inr (Or.inr (Or.inl y))))⟩
end Go.Proofs.Qxb6615073aDoor
