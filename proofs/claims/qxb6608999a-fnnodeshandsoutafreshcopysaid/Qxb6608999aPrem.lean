import Derived.Test.Qxb6608999aMask
namespace Go.Proofs.Qxb6608999a
open Go.RowKit
open Extern.Stop (cell)
set_option linter.unusedSimpArgs false

theorem sc_mustNot {P : Program} {ops : Array Oper} {S : World → Prop} {N : Act → World → Prop} {o : Oper} {r : List (Bool × Oper)} {a : Act} {w : World} (hw : Region.wanted o (yielded ops a.tmps) = false) (hS : S w) (h : wpScript P ops S N r (a.put o.dst undef) w) : wpScript P ops S N ((false, o) :: r) a w := by
  refine sc_must ?_
  unfold wpList
  rw [if_neg (by rw [hw]; simp)]
  exact onlyN_mk ⟨hS, h⟩

/-! ### 7: zzRingPremise -/
set_option maxHeartbeats 8000000 in
theorem prem_any (a : Option Addr) (b off n c : Nat) (R : Nat → Id20) (s : Int) (w : World) (hn : n ≤ 52428) (hs : 0 ≤ s ∧ s ≤ 160) (h : RowIn w a b off n R) :
    Calls Try.prog 7 #[.slice a n c, .int .i64 s] w (BoolOnly w) := by
  have H : Hid _ := h
  clear h
  go_enter Try.func7, Try.ntmps7
  go_wp2_with fail
  go_loopw [8] (fun i wr => ∃ k : Nat, k ≤ n ∧ i = .int .i64 k ∧ Below w.heap.size w wr) (fun i _ => n - (intOf i).toNat)
  case atStart => exact ⟨0, Nat.zero_le _, rfl, Below.refl _ _⟩
  case round =>
    obtain ⟨k, hk, rfl, hbel⟩ := hrel
    by_cases hlt : k < n
    · obtain rfl := H.out.at_ (by omega)
      have HRk : Hid (wr.rangeAt b (off + k * 20) (R k).cells) := Below.range (H.out.row k hlt) hbel
      have EX : ∀ w', Below wr.heap.size wr w' → w'.rangeAt b (off + k * 20) (R k).cells := fun w' hw => Below.range HRk.out hw
      have hk0 : (0 : Int) ≤ (k : Int) := by omega
      have hk2 : (k : Int) < (n : Int) := by omega
      go_wp2_with fail
      refine wp_region_script (fun w' => Below wr.heap.size wr w') [(true, 0), (true, 1), (true, 2), (true, 3), (true, 4), (true, 6), (true, 7), (true, 8), (true, 9), (false, 5), (true, 10)] [] (by kernel_rfl) (by kernel_rfl) (Below.refl _ _).drew ?_
      intro OPS hO
      clear hO
      simp only [scOps, List.getElem?_cons_succ, List.getElem?_cons_zero, Act.put, List.setIfInBounds_toArray, List.set_cons_zero, List.set_cons_succ]
      repeat (apply sc_take rfl; (case h => (intro wx hx; first | exact exec_load_mid 31 _ rfl _ _ rfl _ _ (EX wx hx) Try.underlying31 rfl (id31 _) | (go_simp; try with_reducible rfl))); try simp only [Act.put, List.setIfInBounds_toArray, List.set_cons_zero, List.set_cons_succ])
      refine sc_must ?_
      go_wp2_with (go_at_call 17; refine (mask_any (R k) s wr.drew hs).mono ?_)
      rintro e w1 ⟨u', rfl, hb1⟩
      have hbb : Below wr.heap.size wr w1 := (Below.refl _ _).drew.trans hb1
      have hbw : Below w.heap.size w w1 := hbel.trans (hbb.mono hbel.size)
      clear hb1
      go_wp2_with fail
      refine onlyN_mk ⟨hbb, ?_⟩
      apply sc_take rfl
      case h => (intro wx hx; exact exec_neq31 _ _ _ rfl u' (R k) rfl rfl)
      try simp only [Act.put, List.setIfInBounds_toArray, List.set_cons_zero, List.set_cons_succ]
      refine sc_nil ?_
      have HRk1 : Hid (w1.rangeAt b (off + k * 20) (R k).cells) := EX w1 hbb
      obtain ⟨z, hz⟩ : ∃ z, (u'.l == (R k).l) = z := ⟨_, rfl⟩
      rw [hz]
      clear hz EX HRk hbb
      cases z with
      | false =>
        go_wp2_with fail
        go_ret
        exact ⟨hbw, _, rfl⟩
      | true =>
        go_wp2_with fail
        by_cases hk3 : 0 < k
        · have hk4 : (0 : Int) < (k : Int) := by omega
          obtain ⟨j, hj⟩ : ∃ j, j = k - 1 := ⟨_, rfl⟩
          have hjn : j < n := by omega
          have hwr : IntKind.i64.wrap ((k : Int) - 1) = (j : Int) := by rw [IntKind.wrap_i64]; omega
          have hj0 : (0 : Int) ≤ (j : Int) := by omega
          have hj1 : (j : Int) < (n : Int) := by omega
          have HRj : Hid (w1.rangeAt b (off + j * 20) (R j).cells) := Below.range (H.out.row j hjn) hbw
          clear hj
          have EX : ∀ w', Below w1.heap.size w1 w' → w'.rangeAt b (off + k * 20) (R k).cells := fun w' hw => Below.range HRk1.out hw
          have EY : ∀ w', Below w1.heap.size w1 w' → w'.rangeAt b (off + j * 20) (R j).cells := fun w' hw => Below.range HRj.out hw
          refine wp_region_script (fun w' => Below w1.heap.size w1 w') [(true, 0), (true, 1), (true, 2), (true, 3), (true, 4), (true, 5), (true, 6), (true, 7), (true, 8), (true, 9), (true, 10), (true, 11), (false, 12), (true, 13), (true, 14)] [2] (by kernel_rfl) (by kernel_rfl) (Below.refl _ _).drew ?_
          intro OPS hO
          simp only [List.map_cons, List.map_nil, List.getElem?_cons_succ, List.getElem?_cons_zero, List.cons.injEq, and_true] at hO
          have G2 : Hid _ := hO
          clear hO
          simp only [scOps, List.getElem?_cons_succ, List.getElem?_cons_zero, Act.put, List.setIfInBounds_toArray, List.set_cons_zero, List.set_cons_succ]
          repeat ((first | apply sc_take rfl | apply sc_takeIf ((wanted_of rfl G2.out rfl rfl).trans rfl)); (case h => (intro wx hx; first | exact exec_load_mid 31 _ rfl _ _ rfl _ _ (EX wx hx) Try.underlying31 rfl (id31 _) | exact exec_load_mid 31 _ rfl _ _ rfl _ _ (EY wx hx) Try.underlying31 rfl (id31 _) | (go_simp; try with_reducible rfl))); try simp only [Act.put, List.setIfInBounds_toArray, List.set_cons_zero, List.set_cons_succ])
          refine sc_mustIf ((wanted_of rfl G2.out rfl rfl).trans rfl) ?_
          dsimp only [bare]
          go_wp2_with (go_at_call 18; refine (cmp_any (R j) (R k) w1.drew).mono ?_)
          rintro e w2 ⟨⟨x, rfl⟩, hb2⟩
          have hbc : Below w1.heap.size w1 w2 := (Below.refl _ _).drew.trans hb2
          have hbw2 : Below w.heap.size w w2 := hbw.trans (hbc.mono hbw.size)
          clear hb2 EX EY
          go_wp2_with fail
          refine onlyN_mk ⟨hbc, ?_⟩
          by_cases hx : (0 : Int) ≤ x
          · have hx2 : decide ((0 : Int) ≤ x) = true := decide_eq_true hx
            apply sc_takeIf ((wanted_of rfl G2.out rfl rfl).trans rfl)
            case h => (intro wx hx; go_simp; try with_reducible rfl)
            try simp only [Act.put, List.setIfInBounds_toArray, List.set_cons_zero, List.set_cons_succ]
            apply sc_take rfl
            case h => (intro wx hx; go_simp; try with_reducible rfl)
            try simp only [Act.put, List.setIfInBounds_toArray, List.set_cons_zero, List.set_cons_succ]
            refine sc_nil ?_
            go_wp2_with fail
            go_ret
            exact ⟨hbw2, _, rfl⟩
          · have hx2 : decide ((0 : Int) ≤ x) = false := decide_eq_false hx
            apply sc_takeIf ((wanted_of rfl G2.out rfl rfl).trans rfl)
            case h => (intro wx hx; go_simp; try with_reducible rfl)
            try simp only [Act.put, List.setIfInBounds_toArray, List.set_cons_zero, List.set_cons_succ]
            apply sc_take rfl
            case h => (intro wx hx; go_simp; try with_reducible rfl)
            try simp only [Act.put, List.setIfInBounds_toArray, List.set_cons_zero, List.set_cons_succ]
            refine sc_nil ?_
            go_wp2_with fail
            go_roundw
            case rel => exact ⟨k + 1, by omega, by go_num, hbw2⟩
            case measure => simp [intOf]; omega
        · obtain rfl : k = 0 := by omega
          refine wp_region_script (fun w' => Below w1.heap.size w1 w') [(true, 0), (true, 1), (true, 2), (true, 3), (true, 4), (true, 5), (true, 6), (true, 7), (true, 8), (true, 9), (true, 10), (true, 11), (false, 12), (true, 13), (true, 14)] [2] (by kernel_rfl) (by kernel_rfl) (Below.refl _ _).drew ?_
          intro OPS hO
          simp only [List.map_cons, List.map_nil, List.getElem?_cons_succ, List.getElem?_cons_zero, List.cons.injEq, and_true] at hO
          have G2 : Hid _ := hO
          clear hO
          simp only [scOps, List.getElem?_cons_succ, List.getElem?_cons_zero, Act.put, List.setIfInBounds_toArray, List.set_cons_zero, List.set_cons_succ]
          repeat (apply sc_take rfl; (case h => (intro wx hx; go_simp; try with_reducible rfl)); try simp only [Act.put, List.setIfInBounds_toArray, List.set_cons_zero, List.set_cons_succ])
          repeat (apply sc_skip ((wanted_of rfl G2.out rfl rfl).trans rfl); try simp only [Act.put, List.setIfInBounds_toArray, List.set_cons_zero, List.set_cons_succ])
          apply sc_mustNot ((wanted_of rfl G2.out rfl rfl).trans rfl) (Below.refl _ _).drew
          try simp only [Act.put, List.setIfInBounds_toArray, List.set_cons_zero, List.set_cons_succ]
          apply sc_skip ((wanted_of rfl G2.out rfl rfl).trans rfl)
          try simp only [Act.put, List.setIfInBounds_toArray, List.set_cons_zero, List.set_cons_succ]
          apply sc_take rfl
          case h => (intro wx hx; go_simp; try with_reducible rfl)
          try simp only [Act.put, List.setIfInBounds_toArray, List.set_cons_zero, List.set_cons_succ]
          refine sc_nil ?_
          go_wp2_with fail
          go_roundw
          case rel => exact ⟨1, by omega, by go_num, hbw.drew⟩
          case measure => simp [intOf]; omega
    · go_wp2_with fail
      go_ret
      exact ⟨hbel, _, rfl⟩
end Go.Proofs.Qxb6608999a
