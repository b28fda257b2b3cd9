import Derived.Test.Qxb6615073aDoorAns2
namespace Go.Proofs.Qxb6615073aDoor
open Go.RowKit

set_option maxRecDepth 100000 in
set_option maxHeartbeats 4000000 in
theorem answer_some {K : Cx} {X : Tx} {G : Nat → Prop} {ge L : Int} {N : Nat} {w : World} (h : Inv K X G ge L N true w) {a : Option Addr} {n cp sb : Nat} {S : Nat → ByteArray} (m6 : w.cell? ⟨X.cur, 6, none⟩ = some (.slice a n cp)) (hS : StrsRow w a sb n S) (hn : 0 < n)
    (hN : N < 500000) (hL : -9223372036854775808 ≤ L ∧ L + n < 9223372036854775807) :
    Calls Tryd.prog 27 #[ptr X.T, ptr X.cur] w (AnsPost K X G ge L N n w) := by
  obtain rfl := (hS.1 hn).1
  have hn0 : ((n : Int) == 0) = false := by rw [beq_eq_false_iff_ne]; omega
  have hn3 : n ≤ 32768 := hS.2.2
  have M6 : Hid (w.cell? ⟨X.cur, 6, none⟩ = some (.slice (some ⟨sb, 0, none⟩) n cp)) := m6
  have H : Hid (Inv K X G ge L N true w) := h
  have HS : Hid (StrsRow w (some ⟨sb, 0, none⟩) sb n S) := hS
  clear h m6 hS
  have hmm := @run_makeMap Tryd.prog
  unfold ptr
  go_enter Tryd.func27, Tryd.ntmps27
  go_wp2
  obtain ⟨W, hW⟩ : ∃ W, W = w.alloc (.cells #[.string { data := #[] }, .int .i64 0, .int .i64 0, .map none, .map none, .string { data := #[] }] 60) := ⟨_, rfl⟩
  rw [← hW]
  have HW : Hid (Below w.heap.size w W ∧ W.heap[w.heap.size]? = some (.cells #[.string { data := #[] }, .int .i64 0, .int .i64 0, .map none, .map none, .string { data := #[] }] 60)) := by
    rw [hW]; exact ⟨(Below.refl _ _).alloc (Nat.le_refl _) _, Go.Deep.blk_alloc_new _ _⟩
  have ZW : Hid (Inv K X G ge L N true W) := H.out.below HW.out.1
  obtain ⟨ch, a', n', cp', ut, m0, m1, m5, mx, m8, g8⟩ := ZW.out.memCells ZW.out.curIn
  clear mx
  have m6 : W.cell? ⟨X.cur, 6, none⟩ = some (.slice (some ⟨sb, 0, none⟩) n cp) := cell_same (HW.out.1.block _ (lt_of_cell M6.out)) M6.out
  have t0 : W.cell? ⟨X.T, 0, none⟩ = some (.pointer (some ⟨K.c, 0, none⟩)) := ZW.out.txn.c0
  have c0 := ZW.out.rec_.c0
  have gc0 : W.cell? ⟨w.heap.size, 0, none⟩ = some (.string { data := #[] }) := by rw [cell_of HW.out.2]; rfl
  have gc1 : W.cell? ⟨w.heap.size, 1, none⟩ = some (.int .i64 0) := by rw [cell_of HW.out.2]; rfl
  have gc2 : W.cell? ⟨w.heap.size, 2, none⟩ = some (.int .i64 0) := by rw [cell_of HW.out.2]; rfl
  have gc3 : W.cell? ⟨w.heap.size, 3, none⟩ = some (.map none) := by rw [cell_of HW.out.2]; rfl
  have gc4 : W.cell? ⟨w.heap.size, 4, none⟩ = some (.map none) := by rw [cell_of HW.out.2]; rfl
  have gc5 : W.cell? ⟨w.heap.size, 5, none⟩ = some (.string { data := #[] }) := by rw [cell_of HW.out.2]; rfl
  have gf0 := frozen_of HW.out.2 0
  have gf1 := frozen_of HW.out.2 1
  have gf2 := frozen_of HW.out.2 2
  have gf3 := frozen_of HW.out.2 3
  have gf4 := frozen_of HW.out.2 4
  have gf5 := frozen_of HW.out.2 5
  have n1 : X.cur ≠ w.heap.size := by have := lt_of_cell M6.out; omega
  have n2 := n1.symm
  clear hW
  refine wp_region_quiet_tail 19 (by kernel_rfl) (by kernel_rfl) ?_
  simp only [List.take_succ_cons, List.take_zero, List.drop_succ_cons, List.drop_zero]
  repeat (go_big_quiet_step (fail))
  go_big_quiet_want
  go_big_quiet_op
  refine ⟨_, ms_any _ _, ?_⟩
  go_big_quiet_on
  repeat (go_big_quiet_step (fail))
  refine wpQuiet_nil ?_
  go_upto_region 2 with fail
  obtain ⟨D1, D2, D3, D4, D5⟩ := setGrant_facts ZW.out HW.out.2 K.nm (X.E X.cur).1 (wrap64 (K.l.tdiv 1000000)) (.map none) (.map none)
  obtain ⟨V, hV⟩ : ∃ V, V = setGrant W w.heap.size K.nm (X.E X.cur).1 (wrap64 (K.l.tdiv 1000000)) (.map none) (.map none) := ⟨_, rfl⟩
  rw [show (((((W.setCell ⟨w.heap.size, 0, none⟩ (.string K.nm)).setCell ⟨w.heap.size, 1, none⟩ (.int .i64 (X.E X.cur).1)).setCell ⟨w.heap.size, 2, none⟩ (.int .i64 (wrap64 (K.l.tdiv 1000000)))).setCell ⟨w.heap.size, 3, none⟩ (.map none)).setCell ⟨w.heap.size, 4, none⟩ (.map none)).setCell ⟨w.heap.size, 5, none⟩ (.string { data := #[] }) = V from hV.symm]
  rw [← hV] at D1 D2 D3 D4 D5
  clear hV m0 m1 m5 m6 m8 g8 gc0 gc1 gc2 gc3 gc4 gc5 gf0 gf1 gf2 gf3 gf4 gf5
  obtain ⟨ch, a', n', cp', ut, m0, m1, m5, mx, m8, g8⟩ := D1.memCells D1.curIn
  have gc0 : V.cell? ⟨w.heap.size, 0, none⟩ = some (.string K.nm) := by rw [cell_of D2]; rfl
  have gc1 : V.cell? ⟨w.heap.size, 1, none⟩ = some (.int .i64 (X.E X.cur).1) := by rw [cell_of D2]; rfl
  have gc2 : V.cell? ⟨w.heap.size, 2, none⟩ = some (.int .i64 (wrap64 (K.l.tdiv 1000000))) := by rw [cell_of D2]; rfl
  have gc3 : V.cell? ⟨w.heap.size, 3, none⟩ = some (.map none) := by rw [cell_of D2]; rfl
  have gc4 : V.cell? ⟨w.heap.size, 4, none⟩ = some (.map none) := by rw [cell_of D2]; rfl
  have gc5 : V.cell? ⟨w.heap.size, 5, none⟩ = some (.string { data := #[] }) := by rw [cell_of D2]; rfl
  have gf0 := frozen_of D2 0
  have gf1 := frozen_of D2 1
  have gf2 := frozen_of D2 2
  have gf3 := frozen_of D2 3
  have gf4 := frozen_of D2 4
  have gf5 := frozen_of D2 5
  have DD : Hid (Inv K X G ge L N true V ∧ V.heap[w.heap.size]? = some (.cells #[.string K.nm, .int .i64 (X.E X.cur).1, .int .i64 (wrap64 (K.l.tdiv 1000000)), .map none, .map none, .string { data := #[] }] 60 (0, 0)) ∧ ∀ B, Fr B (· = w.heap.size) W V) := ⟨D1, D2, D5⟩
  have D4' : Hid (∀ b, b ≠ w.heap.size → V.heap[b]? = W.heap[b]?) := D4
  clear mx D1 D2 D3 D4 D5
  clear ch m5
  obtain ⟨ch, m5, m6⟩ : ∃ ch, V.cell? ⟨X.cur, 5, none⟩ = some (.int .u64 ch) ∧ V.cell? ⟨X.cur, 6, none⟩ = some (.slice (some ⟨sb, 0, none⟩) n cp) := by
    have e1 : V.heap[X.cur]? = W.heap[X.cur]? := D4'.out _ n1
    obtain ⟨ch, _, _, _, _, _, _, m5, _⟩ := ZW.out.memCells ZW.out.curIn
    exact ⟨ch, cell_same e1 m5, cell_same e1 (cell_same (HW.out.1.block _ (lt_of_cell M6.out)) M6.out)⟩
  have hgV : w.heap.size < V.heap.size := lt_of_cell gc0
  have hcV : X.cur < V.heap.size := lt_of_cell m6
  have k1 : w.heap.size ≠ V.heap.size := by omega
  have k2 : w.heap.size ≠ V.heap.size + 1 := by omega
  have k3 : X.cur ≠ V.heap.size := by omega
  have k4 : X.cur ≠ V.heap.size + 1 := by omega
  go_upto_region 6 with fail
  obtain ⟨U, hU⟩ : ∃ U, U = (((V.setCell ⟨w.heap.size, 3, none⟩ (.map (some V.heap.size))).setCell ⟨w.heap.size, 4, none⟩ (.map (some (V.heap.size + 1)))).alloc (.map #[] 0)).alloc (.map #[] 0) := ⟨_, rfl⟩
  rw [← hU]
  have hfV : Fr K.B (fun b => Touch K X G b ∨ b = K.R) w V := (Fr.of_below (Y := fun b => Touch K X G b ∨ b = K.R) HW.out.1).trans (DD.out.2.2 K.B) (fun _ y => y) (fun b hb y => by omega)
  obtain ⟨A0, A1, A2⟩ := ans_start DD.out.1 DD.out.2.1 (Nat.le_refl _) hfV hU ch
  have HA : Hid (AnsAt K X G ge L N w.heap.size V.heap.size (V.heap.size + 1) w 0 (.int .u64 ch) U) := A0
  have p6 : U.cell? ⟨X.cur, 6, none⟩ = some (.slice (some ⟨sb, 0, none⟩) n cp) := cell_same (A2 _ hcV n1) m6
  have hne : Hid (V.heap.size ≠ K.M ∧ V.heap.size ≠ K.R ∧ V.heap.size + 1 ≠ K.M ∧ V.heap.size + 1 ≠ K.R) := by
    obtain ⟨_, _, eR⟩ := DD.out.1.Rmap
    obtain ⟨_, _, eM⟩ := DD.out.1.Mmap
    have := lt_of_heap eR
    have := lt_of_heap eM
    exact ⟨by omega, by omega, by omega, by omega⟩
  have hgw : Hid (w.heap.size ≤ V.heap.size ∧ w.heap.size ≤ V.heap.size + 1) := ⟨by omega, by omega⟩
  generalize hgR : V.heap.size = gR at *
  clear hU A0 A1 A2 hfV m0 m1 m5 m6 m8 g8 gc0 gc1 gc2 gc3 gc4 gc5 gf0 gf1 gf2 gf3 gf4 gf5 hgV hcV k1 k2 k3 k4 D4' DD ZW HW hmm t0 c0
  go_wp2
  go_loopw [5, 54] (fun c i wr => ∃ k : Nat, k ≤ n ∧ i = .int .i64 k ∧ AnsAt K X G ge L N w.heap.size gR (gR + 1) w k c wr) (fun _ i _ => n - (intOf i).toNat)
  case atStart => exact ⟨0, Nat.zero_le _, rfl, HA.out.drewN 1⟩
  case round =>
    obtain ⟨k, hk, rfl, hA⟩ := hrel
    obtain ⟨G', L', x, rfl, g1, g2, g3, g4, hinv, hg, hmR, hmH, hfr⟩ := hA
    by_cases hlt : k < n
    · have hS' : StrsRow wr (some ⟨sb, 0, none⟩) sb n S := HS.out.kept (fun b cs hb => by
        rw [hb]
        refine hfr.keeps hb (fun y => ?_) (by decide)
        rcases y with y | y
        · exact H.out.not_touch hb (Or.inr rfl) y
        · obtain ⟨_, _, e⟩ := H.out.Rmap
          rw [y, e] at hb
          simp at hb)
      have hck : wr.cell? ⟨sb, k, none⟩ = some (.string (S k)) := (hS'.1 hn).2.cell hlt
      have hsk : (S k).size ≤ maxLen := HS.out.2.1 k hlt
      have t0 : wr.cell? ⟨X.T, 0, none⟩ = some (.pointer (some ⟨K.c, 0, none⟩)) := hinv.txn.c0
      have c7 := hinv.rec_.c7
      generalize hSk : S k = s at *
      have Hs : Hid (s.size ≤ maxLen) := hsk
      rcases hinv.lookRole hsk with hl | ⟨b, hGb, hl⟩
      · obtain ⟨w2, hup, i2, f2, ho2⟩ := hinv.newRole hsk (by omega)
        unfold roleObj at hup
        have HH : Hid (Inv K X G' ge L' (N + 6 * k) false wr ∧ GAt K X w.heap.size gR (gR + 1) wr ∧ MapOK gR (3 * k) wr ∧ MapOK (gR + 1) (3 * k) wr ∧ Fr K.B (fun b => Touch K X G b ∨ b = K.R) w wr ∧ Inv K X (fun b => G' b ∨ b = wr.heap.size) ge L' (N + 6 * k + 1) false w2 ∧ Fr K.B (· = K.R) wr w2) := ⟨hinv, hg, hmR, hmH, hfr, i2, f2⟩
        have q3 := lt_of_cell t0
        have q4 := lt_of_cell c7
        have q1 : X.T ≠ wr.heap.size := by omega
        have q2 : K.c ≠ wr.heap.size := by omega
        clear hinv hg hmR hmH hfr i2 f2 ho2 hS' hSk hsk
        go_wp2_with fail
        refine (settle_any HH.out.2.2.2.2.2.1 (Or.inr rfl) s (by omega) (by omega)).mono ?_
        rintro e w3 ⟨v, L3, rfl, hv, l1, l2, i3, f3⟩
        have MM : Hid (Mid K X G ge L N w.heap.size gR (gR + 1) w k wr.heap.size 0 w3) := mid_new g1 g2 g3 g4 HH.out.1 HH.out.2.1 HH.out.2.2.1 HH.out.2.2.2.1 hne.out.2.1 hne.out.2.2.2 HH.out.2.2.2.2.1 HH.out.2.2.2.2.2.1 HH.out.2.2.2.2.2.2 l1 l2 i3 f3
        clear l1 l2 i3 f3 HH hup hl t0 c7 hck
        generalize wr.heap.size = r at *
        rcases hv with rfl | ⟨m', hm', rfl⟩
        · go_wp2
          go_roundw
          case rel => exact ⟨k + 1, by omega, by go_num, MM.out.ans (by omega) _⟩
          case measure => simp [intOf]; omega
        · unfold ptr
          obtain ⟨z1, z2, z3, ⟨er, cr, z4, z5⟩, z6⟩ := MM.out.drew.cells hm'
          obtain ⟨w4, y1, y2, y3⟩ := MM.out.drew.store (b := gR + 1) (Or.inr rfl) (by omega) hne.out hgw.out Tryd.underlying58 Hs.out (.string K.nm)
          go_wp2
          refine wp_region_quiet_tail 7 (by kernel_rfl) (by kernel_rfl) ?_
          simp only [List.take_succ_cons, List.take_zero, List.drop_succ_cons, List.drop_zero]
          repeat (go_big_quiet_step (fail))
          refine wpQuiet_nil ?_
          go_upto_region 16 with fail
          have M4 : Hid (Mid K X G ge L N w.heap.size gR (gR + 1) w k r 1 w4) := y2
          clear z1 z2 z3 z4 z5 z6 y1 y2 y3 MM
          obtain ⟨z1, z2, z3, ⟨er, cr, z4, z5⟩, z6⟩ := M4.out.cells hm'
          by_cases hmc : m' = X.cur
          · rw [decide_eq_true hmc] at z6
            obtain ⟨w5, y1, y2, y3⟩ := M4.out.drew.store (b := gR) (Or.inl rfl) (by omega) hne.out hgw.out Tryd.underlying57 Hs.out (.int .i64 er)
            have HC : Hid (m' = X.cur) := hmc
            clear hmc
            go_wp2
            refine wp_region_quiet_tail 7 (by kernel_rfl) (by kernel_rfl) ?_
            simp only [List.take_succ_cons, List.take_zero, List.drop_succ_cons, List.drop_zero]
            repeat (go_big_quiet_step (fail))
            refine wpQuiet_nil ?_
            go_upto_region 18 with fail
            have M5 : Hid (Mid K X G ge L N w.heap.size gR (gR + 1) w k r 2 w5) := y2
            clear z1 z2 z3 z4 z5 z6 y1 y2 y3
            obtain ⟨z1, z2, z3, ⟨er, cr, z4, z5⟩, z6⟩ := M5.out.cells hm'
            clear z1 z2 z3 z4 z6
            go_wp2
            all_goals
              go_roundw
              case rel => exact ⟨k + 1, by omega, by go_num, M5.out.ans (by omega) _⟩
              case measure => simp [intOf]; omega
          · rw [decide_eq_false hmc] at z6
            have HC : Hid (¬ m' = X.cur) := hmc
            clear hmc
            go_wp2
            all_goals
              go_roundw
              case rel => exact ⟨k + 1, by omega, by go_num, M4.out.ans (by omega) _⟩
              case measure => simp [intOf]; omega
      · have HH : Hid (Inv K X G' ge L' (N + 6 * k) false wr ∧ GAt K X w.heap.size gR (gR + 1) wr ∧ MapOK gR (3 * k) wr ∧ MapOK (gR + 1) (3 * k) wr ∧ Fr K.B (fun b => Touch K X G b ∨ b = K.R) w wr) := ⟨hinv, hg, hmR, hmH, hfr⟩
        clear hinv hg hmR hmH hfr hS' hSk hsk
        unfold ptr at hl
        go_wp2_with fail
        refine (settle_any HH.out.1 hGb s (by omega) (by omega)).mono ?_
        rintro e w3 ⟨v, L3, rfl, hv, l1, l2, i3, f3⟩
        have MM : Hid (Mid K X G ge L N w.heap.size gR (gR + 1) w k b 0 w3) := mid_old g1 g2 g3 g4 HH.out.1 HH.out.2.1 HH.out.2.2.1 HH.out.2.2.2.1 HH.out.2.2.2.2 hGb l1 l2 i3 f3
        clear l1 l2 i3 f3 HH hl t0 c7 hck
        rcases hv with rfl | ⟨m', hm', rfl⟩
        · go_wp2
          go_roundw
          case rel => exact ⟨k + 1, by omega, by go_num, MM.out.ans (by omega) _⟩
          case measure => simp [intOf]; omega
        · unfold ptr
          obtain ⟨z1, z2, z3, ⟨er, cr, z4, z5⟩, z6⟩ := MM.out.drew.cells hm'
          obtain ⟨w4, y1, y2, y3⟩ := MM.out.drew.store (b := gR + 1) (Or.inr rfl) (by omega) hne.out hgw.out Tryd.underlying58 Hs.out (.string K.nm)
          go_wp2
          refine wp_region_quiet_tail 7 (by kernel_rfl) (by kernel_rfl) ?_
          simp only [List.take_succ_cons, List.take_zero, List.drop_succ_cons, List.drop_zero]
          repeat (go_big_quiet_step (fail))
          refine wpQuiet_nil ?_
          go_upto_region 16 with fail
          have M4 : Hid (Mid K X G ge L N w.heap.size gR (gR + 1) w k b 1 w4) := y2
          clear z1 z2 z3 z4 z5 z6 y1 y2 y3 MM
          obtain ⟨z1, z2, z3, ⟨er, cr, z4, z5⟩, z6⟩ := M4.out.cells hm'
          by_cases hmc : m' = X.cur
          · rw [decide_eq_true hmc] at z6
            obtain ⟨w5, y1, y2, y3⟩ := M4.out.drew.store (b := gR) (Or.inl rfl) (by omega) hne.out hgw.out Tryd.underlying57 Hs.out (.int .i64 er)
            have HC : Hid (m' = X.cur) := hmc
            clear hmc
            go_wp2
            refine wp_region_quiet_tail 7 (by kernel_rfl) (by kernel_rfl) ?_
            simp only [List.take_succ_cons, List.take_zero, List.drop_succ_cons, List.drop_zero]
            repeat (go_big_quiet_step (fail))
            refine wpQuiet_nil ?_
            go_upto_region 18 with fail
            have M5 : Hid (Mid K X G ge L N w.heap.size gR (gR + 1) w k b 2 w5) := y2
            clear z1 z2 z3 z4 z5 z6 y1 y2 y3
            obtain ⟨z1, z2, z3, ⟨er, cr, z4, z5⟩, z6⟩ := M5.out.cells hm'
            clear z1 z2 z3 z4 z6
            go_wp2
            all_goals
              go_roundw
              case rel => exact ⟨k + 1, by omega, by go_num, M5.out.ans (by omega) _⟩
              case measure => simp [intOf]; omega
          · rw [decide_eq_false hmc] at z6
            have HC : Hid (¬ m' = X.cur) := hmc
            clear hmc
            go_wp2
            all_goals
              go_roundw
              case rel => exact ⟨k + 1, by omega, by go_num, M4.out.ans (by omega) _⟩
              case measure => simp [intOf]; omega
    · obtain rfl : k = n := by omega
      obtain ⟨_, _, _, _, ut, _, _, _, _, m8, g8⟩ := hinv.memCells hinv.curIn
      have HH : Hid (Inv K X G' ge L' (N + 6 * k) false wr ∧ GAt K X w.heap.size gR (gR + 1) wr ∧ Fr K.B (fun b => Touch K X G b ∨ b = K.R) w wr) := ⟨hinv, hg, hfr⟩
      clear hinv hg hmR hmH hfr
      go_upto_region 21 with fail
      obtain ⟨Y, hY⟩ : ∃ Y, Y = wr.setCell ⟨X.cur, 8, none⟩ (.bool false) := ⟨_, rfl⟩
      rw [← hY]
      have iY : Hid (Inv K X G' ge L' (N + 6 * k) true Y) := by rw [hY]; exact HH.out.1.setUntold false
      have gY : Y.heap[w.heap.size]? = some (.cells #[.string K.nm, .int .i64 (X.E X.cur).1, .int .i64 (wrap64 (K.l.tdiv 1000000)), .map (some gR), .map (some (gR + 1)), .string { data := #[] }] 60 (0, 0)) := by rw [hY, set_other n2]; exact HH.out.2.1
      have fY : Hid (Fr K.B (fun b => Touch K X G b ∨ b = K.R) w Y) := by rw [hY]; exact HH.out.2.2.trans fr_set (fun _ y => y) (fun b _ y => by subst y; exact Or.inl (Or.inr (Or.inr (Or.inl H.out.curIn))))
      have gc0 : Y.cell? ⟨w.heap.size, 0, none⟩ = some (.string K.nm) := by rw [cell_of gY]; rfl
      have gc1 : Y.cell? ⟨w.heap.size, 1, none⟩ = some (.int .i64 (X.E X.cur).1) := by rw [cell_of gY]; rfl
      have gc2 : Y.cell? ⟨w.heap.size, 2, none⟩ = some (.int .i64 (wrap64 (K.l.tdiv 1000000))) := by rw [cell_of gY]; rfl
      have gc3 : Y.cell? ⟨w.heap.size, 3, none⟩ = some (.map (some gR)) := by rw [cell_of gY]; rfl
      have gc4 : Y.cell? ⟨w.heap.size, 4, none⟩ = some (.map (some (gR + 1))) := by rw [cell_of gY]; rfl
      have gc5 : Y.cell? ⟨w.heap.size, 5, none⟩ = some (.string { data := #[] }) := by rw [cell_of gY]; rfl
      have gf0 := frozen_of gY 0
      have gf1 := frozen_of gY 1
      have gf2 := frozen_of gY 2
      have gf3 := frozen_of gY 3
      have gf4 := frozen_of gY 4
      have gf5 := frozen_of gY 5
      have GY : Hid (Y.heap[w.heap.size]? = some (.cells #[.string K.nm, .int .i64 (X.E X.cur).1, .int .i64 (wrap64 (K.l.tdiv 1000000)), .map (some gR), .map (some (gR + 1)), .string { data := #[] }] 60 (0, 0))) := gY
      clear hY gY m8 g8
      go_wp2
      obtain ⟨E1, E2, E3, E4, E5⟩ := setGrant_facts iY.out GY.out K.nm (X.E X.cur).1 (wrap64 (K.l.tdiv 1000000)) (.map (some gR)) (.map (some (gR + 1)))
      obtain ⟨V2, hV2⟩ : ∃ V2, V2 = setGrant Y w.heap.size K.nm (X.E X.cur).1 (wrap64 (K.l.tdiv 1000000)) (.map (some gR)) (.map (some (gR + 1))) := ⟨_, rfl⟩
      rw [show (((((Y.setCell ⟨w.heap.size, 0, none⟩ (.string K.nm)).setCell ⟨w.heap.size, 1, none⟩ (.int .i64 (X.E X.cur).1)).setCell ⟨w.heap.size, 2, none⟩ (.int .i64 (wrap64 (K.l.tdiv 1000000)))).setCell ⟨w.heap.size, 3, none⟩ (.map (some gR))).setCell ⟨w.heap.size, 4, none⟩ (.map (some (gR + 1)))).setCell ⟨w.heap.size, 5, none⟩ (.string { data := #[] }) = V2 from hV2.symm]
      rw [← hV2] at E1 E2 E3 E4 E5
      clear hV2
      have hc0 : V2.cell? ⟨w.heap.size, 0, none⟩ = some (.string K.nm) := by rw [cell_of E2]; rfl
      have hc1 : V2.cell? ⟨w.heap.size, 1, none⟩ = some (.int .i64 (X.E X.cur).1) := by rw [cell_of E2]; rfl
      have hc2 : V2.cell? ⟨w.heap.size, 2, none⟩ = some (.int .i64 (wrap64 (K.l.tdiv 1000000))) := by rw [cell_of E2]; rfl
      have hc3 : V2.cell? ⟨w.heap.size, 3, none⟩ = some (.map (some gR)) := by rw [cell_of E2]; rfl
      have hc4 : V2.cell? ⟨w.heap.size, 4, none⟩ = some (.map (some (gR + 1))) := by rw [cell_of E2]; rfl
      have hc5 : V2.cell? ⟨w.heap.size, 5, none⟩ = some (.string { data := #[] }) := by rw [cell_of E2]; rfl
      refine bodyPost_ret (v := .tuple #[grantVal K.nm (X.E X.cur).1 (wrap64 (K.l.tdiv 1000000)) (.map (some gR)) (.map (some (gR + 1))), .int .u64 x]) (by simp [results, Tryd.results27, go_sem, hc0, hc1, hc2, hc3, hc4, hc5, grantVal]) rfl ?_
      exact ⟨_, _, _, x, L', G', rfl, g3, g4, g1, g2, E1, fY.out.trans (E5 K.B) (fun _ y => y) (fun b hb y => by omega)⟩
end Go.Proofs.Qxb6615073aDoor
