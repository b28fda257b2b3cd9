import Derived.Test.Qxb6615539aFmtScript
namespace Go.Proofs.Qxb6615539aFmt
open Go.RowKit
open Extern.Stop (cell)
set_option linter.unusedSimpArgs false

/-! ### 23: zzSameTag -/
set_option maxHeartbeats 4000000 in
theorem sameTag_any (r1 r2 : Rep) (v1 v2 : Value) (w : World) : Calls Tryf.prog 23 #[.agg (repCells r1 v1).toArray, .agg (repCells r2 v2).toArray] w (BoolPost (repEq r1 r2) w) := by
  obtain ⟨W1, hW1⟩ : ∃ W1, W1 = w.alloc (.cells (repCells r1 v1).toArray 49) := ⟨_, rfl⟩
  obtain ⟨W, hW⟩ : ∃ W, W = W1.alloc (.cells (repCells r2 v2).toArray 49) := ⟨_, rfl⟩
  have hb1 : Below w.heap.size w W1 := by rw [hW1]; exact (Below.refl _ _).alloc (Nat.le_refl _) _
  have hb2 : Below W1.heap.size W1 W := by rw [hW]; exact (Below.refl _ _).alloc (Nat.le_refl _) _
  have hs1 : W1.heap.size = w.heap.size + 1 := by rw [hW1]; simp
  have hbel : Below w.heap.size w W := hb1.trans (hb2.mono hb1.size)
  have B1 : BoxAt W w.heap.size r1 v1 := boxAt_rep (Below.range (by rw [hW1]; exact range_box w _ 49) hb2)
  have B2 : BoxAt W (w.heap.size + 1) r2 v2 := by rw [hW, ← hs1]; exact boxAt_rep (range_box W1 _ 49)
  have f3 := B1.f3
  have g3 := B2.f3
  have T4 : Hid (W.rangeAt w.heap.size 4 r1.tw.cells) := B1.f4
  have U4 : Hid (W.rangeAt (w.heap.size + 1) 4 r2.tw.cells) := B2.f4
  have HW1 : Hid (W1 = w.alloc (.cells (repCells r1 v1).toArray 49)) := hW1
  have HW : Hid (W = W1.alloc (.cells (repCells r2 v2).toArray 49)) := hW
  clear hW hW1 hs1 B1 B2 hb1 hb2
  by_cases hn : r1.tn = r2.tn
  · have hE : repEq r1 r2 = (r1.tw.l == r2.tw.l) := by simp [repEq, tagEq, hn]
    rw [hE]
    clear hE
    rw [hn] at f3
    go_enter Tryf.func23, Tryf.ntmps23
    go_upto_region 1 with fail
    rw [← HW1.out, ← HW.out]
    go_wp2_with (first | refine wpList_valueIf rfl (exec_load_mid 36 _ rfl _ _ rfl _ _ T4.out Tryf.underlying36 rfl (id36 _)) ?_ | refine wpList_valueIf rfl (exec_load_mid 36 _ rfl _ _ rfl _ _ U4.out Tryf.underlying36 rfl (id36 _)) ?_ | refine wpList_valueIf rfl (exec_eql36 _ _ _ rfl r1.tw r2.tw rfl rfl) ?_)
    go_ret
    exact ⟨rfl, hbel⟩
  · have hE : repEq r1 r2 = false := by simp [repEq, tagEq, hn]
    rw [hE]
    clear hE
    go_enter Tryf.func23, Tryf.ntmps23
    go_upto_region 1 with fail
    rw [← HW1.out, ← HW.out]
    go_wp2_with fail
    go_ret
    exact ⟨rfl, hbel⟩

theorem repEq_iff (a b : Rep) : repEq a b = true ↔ a.tn = b.tn ∧ a.tw = b.tw := by
  simp only [repEq, tagEq, Bool.and_eq_true, beq_iff_eq]
  exact ⟨fun h => ⟨h.1, Id16.eq h.2⟩, fun h => ⟨h.1, by rw [h.2]⟩⟩

/-! ### 26: zzOneTag -/
def OnePost (R : Nat → Rep) (n : Nat) (w : World) (e : Ending) (w' : World) : Prop := ∃ z : Bool, e = .returned (.bool z) ∧ (z = true ↔ ∀ j, j < n → repEq (R 0) (R j) = true) ∧ Below w.heap.size w w'

set_option maxHeartbeats 4000000 in
theorem oneTag_any (a : Option Addr) (b off n c : Nat) (R : Nat → Rep) (w : World) (h : RowIn w a b off n R) (hn : 0 < n) (hn2 : n ≤ 1048576) :
    Calls Tryf.prog 26 #[.slice a n c] w (OnePost R n w) := by
  obtain rfl := h.at_ hn
  have H : Hid _ := h
  clear h
  go_enter Tryf.func26, Tryf.ntmps26
  go_wp2_with fail
  go_loopw [3] (fun i wr => ∃ k : Nat, 1 ≤ k ∧ k ≤ n ∧ i = .int .i64 k ∧ (∀ j, j < k → repEq (R 0) (R j) = true) ∧ Below w.heap.size w wr) (fun i _ => n - (intOf i).toNat)
  case atStart =>
    refine ⟨1, Nat.le_refl _, hn, rfl, fun j hj => ?_, Below.refl _ _⟩
    obtain rfl : j = 0 := by omega
    exact (repEq_iff _ _).2 ⟨rfl, rfl⟩
  case round =>
    obtain ⟨k, hk1, hk, rfl, hA, hbel⟩ := hrel
    have HA : Hid _ := hA
    clear hA
    by_cases hlt : k < n
    · obtain ⟨vk, hrk, _⟩ := Below.rep (H.out.rep k hlt) hbel
      obtain ⟨v0, hr0, _⟩ := Below.rep (H.out.rep 0 hn) hbel
      rw [Nat.zero_mul, Nat.add_zero] at hr0
      have E1 : ∀ w', Below wr.heap.size wr w' → w'.rangeAt b off (repCells (R 0) v0) := fun w' hw => Below.range hr0 hw
      have E2 : ∀ w', Below wr.heap.size wr w' → w'.rangeAt b (off + k * 59) (repCells (R k) vk) := fun w' hw => Below.range hrk hw
      have hk0 : (0 : Int) ≤ (k : Int) := by omega
      have hk2 : (k : Int) < (n : Int) := by omega
      have hn0 : (0 : Int) < (n : Int) := by omega
      have i1 : (Tryf.prog.info? 49).map (·.size) = some (repCells (R 0) v0).length := by rw [repCells_len]; exact info49
      have i2 : (Tryf.prog.info? 49).map (·.size) = some (repCells (R k) vk).length := by rw [repCells_len]; exact info49
      clear hrk hr0
      go_wp2_with fail
      refine wp_region_floatl (fun w' => Below wr.heap.size wr w') [(0, 7)] [7, 8] (by kernel_rfl) (by kernel_rfl) (Below.refl _ _).drew ?_
      intro OPS hO
      simp only [List.map_cons, List.map_nil, List.getElem?_cons_succ, List.getElem?_cons_zero, List.cons.injEq, and_true] at hO
      obtain ⟨h7, h8⟩ := hO
      have H7 : Hid _ := h7
      have H8 : Hid _ := h8
      clear h7 h8
      simp only [segs, List.drop_succ_cons, List.drop_zero, List.take_succ_cons, List.take_zero, List.cons_append, List.nil_append, List.append_nil]
      repeat (apply take_step rfl; (case h => (intro wx hx; first | exact exec_load_mid 49 _ rfl _ _ rfl _ _ (E1 wx hx) Tryf.underlying49 rfl i1 | exact exec_load_mid 49 _ rfl _ _ rfl _ _ (E2 wx hx) Tryf.underlying49 rfl i2 | (go_simp; try with_reducible rfl))); try simp only [Act.put, List.setIfInBounds_toArray, List.set_cons_zero, List.set_cons_succ])
      refine take_nil ?_
      refine rest_step H7.out ?_
      go_wp2_with (go_at_call 23; refine (sameTag_any (R 0) (R k) v0 vk wr.drew).mono ?_)
      rintro e w1 ⟨rfl, hb1⟩
      have hbb : Below wr.heap.size wr w1 := (Below.refl _ _).drew.trans hb1
      have hbw : Below w.heap.size w w1 := hbel.trans (hbb.mono hbel.size)
      clear E1 E2 i1 i2
      obtain ⟨z, hZ⟩ : ∃ z, repEq (R 0) (R k) = z := ⟨_, rfl⟩
      have HZ : Hid (repEq (R 0) (R k) = z) := hZ
      rw [hZ]
      clear hZ
      cases z with
      | true =>
        go_wp2_with fail
        refine onlyN_mk ⟨hbb, ?_⟩
        refine rest_step H8.out ?_
        go_wp2_with fail
        refine onlyN_mk ⟨hbb, rest_nil ?_⟩
        go_wp2_with fail
        go_roundw
        case rel =>
          refine ⟨k + 1, by omega, by omega, by go_num, fun j hj => ?_, hbw⟩
          by_cases e : j = k
          · subst e; exact HZ.out
          · exact HA.out j (by omega)
        case measure => simp [intOf]; omega
      | false =>
        go_wp2_with fail
        refine onlyN_mk ⟨hbb, ?_⟩
        refine rest_step H8.out ?_
        go_wp2_with fail
        refine onlyN_mk ⟨hbb, rest_nil ?_⟩
        go_wp2_with fail
        go_ret
        refine ⟨false, rfl, ⟨fun h => (by cases h), fun h => ?_⟩, hbw⟩
        have := h k hlt
        rw [HZ.out] at this
        cases this
    · go_wp2_with fail
      go_ret
      exact ⟨true, rfl, ⟨fun _ j hj => HA.out j (by omega), fun _ => rfl⟩, hbel⟩

/-- One tag for all: whichever is set against. -/
theorem allEq_one (R : Nat → Rep) (n J : Nat) (hJ : J < n) : AllEq R n (R J) ↔ ∀ j, j < n → repEq (R 0) (R j) = true := by
  simp only [AllEq, repEq_iff]
  constructor
  · intro h j hj
    have h0 := h 0 (by omega)
    have h1 := h j hj
    exact ⟨h0.1.trans h1.1.symm, h0.2.trans h1.2.symm⟩
  · intro h j hj
    have h0 := h J hJ
    have h1 := h j hj
    exact ⟨h1.1.symm.trans h0.1, h1.2.symm.trans h0.2⟩
end Go.Proofs.Qxb6615539aFmt
