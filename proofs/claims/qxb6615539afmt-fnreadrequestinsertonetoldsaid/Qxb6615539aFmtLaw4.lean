import Derived.Test.Qxb6615539aFmtIns
namespace Go.Proofs.Qxb6615539aFmt
open Go.RowKit Go.Extern.Stop Go.Stop Go.Extern
set_option linter.unusedSimpArgs false

theorem val_setCell_slice {w : World} {v : Value} {x : Option (List UInt8)} (h : ValIn w v x) (a : Addr) (u : Value) {p : Option Addr} {n c : Nat} (hs : w.cell? a = some (.slice p n c)) : ValIn (w.setCell a u) v x := by
  cases x with
  | none => exact h
  | some bs =>
    obtain ⟨q, c', b, o, h1, h2, h3⟩ := h
    refine ⟨q, c', b, o, h1, h2, fun j y hj => ?_⟩
    rw [World.cell?_setCell_other _ _ _ _ (fun e => ?_)]
    · exact h3 j y hj
    · have := h3 j y hj
      rw [← e, hs] at this
      cases Option.some.inj this
      rw [List.getElem?_map] at hj
      obtain ⟨z, _, hz⟩ := Option.map_eq_some_iff.1 hj
      simp [cell] at hz

theorem row_setCell {w : World} {a : Option Addr} {b n : Nat} {R : Nat → Rep} (h : RowIn w a b 0 n R) (q : Addr) (u : Value) {p : Option Addr} {m c : Nat} (hs : w.cell? q = some (.slice p m c)) (hb : b ≠ q.block) : RowIn (w.setCell q u) a b 0 n R := by
  refine ⟨h.at_, fun j hj => ?_⟩
  obtain ⟨v, h1, h2⟩ := h.rep j hj
  exact ⟨v, range_setCell_apart h1 q u (Or.inl hb), val_setCell_slice h2 q u hs⟩

/-- What the loops over 'ext' keep. -/
structure ExtAt (g n : Nat) (w6 : World) (xs : List Value) (k : Nat) (wr : World) : Prop where
  own : wr.ownsRow g 49 59 (.slice (some ⟨g, 0, none⟩) k (n + 1)) k xs
  bel : Below g w6 wr

set_option maxRecDepth 8000 in
set_option maxHeartbeats 64000000 in
theorem law4_any (F : Interp) (key : ByteArray) (mode : Int) (a : Option Addr) (b off n c : Nat) (R : Nat → Rep) (x : Rep) (vx : Value) (p : Int) (w : World) (hF : F.answers w.tape) (hkey : key.size ≤ 9223372036854775807) (hn : n ≤ 9223372036854775807)
    (h : RowIn w a b off n R) (hok : ∀ j, j < n → RepOk (R j)) (hx : ValIn w vx x.val) (hokx : RepOk x) : Calls Tryf.prog 4 #[.string key, .int .u8 mode, .slice a n c, .agg (repCells x vx).toArray, .int .i64 p] w (Law w) := by
  obtain ⟨W0, hW0⟩ : ∃ W0, W0 = w.alloc (.cells (repCells x vx).toArray 49) := ⟨_, rfl⟩
  have hbW : Below w.heap.size w W0 := by rw [hW0]; exact (Below.refl _ _).alloc (Nat.le_refl _) _
  have HX0 : Hid (W0.rangeAt w.heap.size 0 (repCells x vx)) := by rw [hW0]; exact range_box w _ 49
  have HT0 : Hid (W0.there w.heap.size 0 59) := by rw [hW0]; exact there_new _ _ _ _ _ (by rw [List.size_toArray, repCells_len]; exact Nat.le_refl _)
  have hg8 : w.heap.size < W0.heap.size := by rw [hW0]; simp
  have HV0 : Hid (ValIn W0 vx x.val) := Below.val hx hbW
  have H : Hid (RowIn W0 a b off n R) := Below.row h hbW
  have HO : Hid _ := hok
  have HOX : Hid _ := hokx
  have HF : Hid (F.answers w.tape) := hF
  have HW0 : Hid (W0 = w.alloc (.cells (repCells x vx).toArray 49)) := hW0
  obtain ⟨ax, lx, kx, ex, hlx⟩ := valIn_slice hx
  subst ex
  have hlx1 : lx ≤ 9223372036854775807 := by
    rw [hlx]
    cases hq : x.val with
    | none => simp
    | some bs => exact hokx.2 bs hq
  have hxk := hokx.1
  have i49 : (Tryf.prog.info? 49).map (·.size) = some (repCells x (.slice ax lx kx)).length := by rw [repCells_len]; exact info49
  have HI49 : Hid _ := i49
  clear h hok hx hokx hF hW0 hlx i49
  go_enter Tryf.func4, Tryf.ntmps4
  go_upto_region 1 with fail
  rw [← HW0.out]
  go_wp2_with (first | refine wpList_get49 rfl _ rfl _ _ x (.slice ax lx kx) rfl HX0.out ?_ | (go_at_call 19; refine (bytes19 key mode a b off n c R x (.slice ax lx kx) p W0 hkey hn H.out HO.out HV0.out HOX.out).mono ?_))
  rintro e w1 ⟨⟨r, rfl, hr⟩, hb01⟩
  have HR : Hid _ := hr
  clear hr
  have hbw1 : Below w.heap.size w w1 := hbW.trans (hb01.mono (Nat.le_of_lt hg8))
  cases r with
  | false =>
    go_wp2_with fail
    go_ret
    exact ⟨rfl, hbw1⟩
  | true =>
  have HS : Hid (InsSmall n R x) := HR.out rfl
  clear HR
  go_upto_region 3 with fail
  have EX : ∀ w', Below w1.heap.size w1 w' → w'.rangeAt w.heap.size 0 (repCells x (.slice ax lx kx)) := fun w' hw => Below.range (Below.range HX0.out hb01) hw
  refine wp_region_script (fun w' => Below w1.heap.size w1 w') [(true, 0), (true, 1), (true, 2), (false, 3), (false, 4), (false, 5), (false, 6)] [] (by kernel_rfl) (by kernel_rfl) (Below.refl _ _).drew ?_
  intro OPS hO
  clear hO
  simp only [scOps, List.getElem?_cons_succ, List.getElem?_cons_zero, Act.put, List.setIfInBounds_toArray, List.set_cons_zero, List.set_cons_succ]
  repeat (apply sc_take rfl; (case h => (intro wx hx; first | exact exec_load_mid 49 _ rfl _ _ rfl _ _ (EX wx hx) Tryf.underlying49 rfl HI49.out | (go_simp; try with_reducible rfl))); try simp only [Act.put, List.setIfInBounds_toArray, List.set_cons_zero, List.set_cons_succ])
  clear EX
  refine sc_must ?_
  go_wp2_with (go_at_call 9; refine (strBytes_any key 0 w1.drew hkey (by omega)).mono ?_)
  rintro e wd ⟨⟨n0, rfl, hn0⟩, hwd⟩
  rw [hwd]
  clear hwd wd
  go_wp2_with fail
  refine onlyN_mk ⟨(Below.refl _ _).drew, ?_⟩
  refine sc_must ?_
  go_wp2_with (go_at_call 8; refine (repsUse_any a b off n c R n0 w1.drew hn hn0 (Below.row (Below.row H.out hb01) (Below.refl _ _).drew) HO.out).mono ?_)
  rintro e w2 ⟨⟨m0, rfl, hm0⟩, hb2⟩
  have hb12 : Below w1.heap.size w1 w2 := (Below.refl _ _).drew.trans hb2
  clear hb2
  go_wp2_with fail
  refine onlyN_mk ⟨hb12, ?_⟩
  refine sc_must ?_
  go_wp2_with (go_at_call 20; refine (repUse_any x ax lx kx m0 w2 hxk hlx1 hm0).mono ?_)
  rintro e w3 ⟨⟨n1, rfl, hn1⟩, hb23⟩
  have hb13 : Below w1.heap.size w1 w3 := hb12.trans (hb23.mono hb12.size)
  have hbw3 : Below w.heap.size w w3 := hbw1.trans (hb13.mono hbw1.size)
  have hb03 : Below W0.heap.size W0 w3 := hb01.trans (hb13.mono hb01.size)
  clear hb12 hb23 hn0 hm0 hn1 hbw1 hb01
  go_wp2_with fail
  refine onlyN_mk ⟨hb13, ?_⟩
  refine sc_must ?_
  go_wp2_with fail
  refine onlyN_mk ⟨hb13, sc_nil ?_⟩
  clear hb13
  by_cases h0 : n1 < 0
  · go_wp2_with fail
    go_ret
    exact ⟨rfl, hbw3⟩
  by_cases hn0 : n = 0
  · subst hn0
    go_wp2_with fail
    go_ret
    exact ⟨rfl, hbw3⟩
  have hn3 : (n : Int) ≠ 0 := by omega
  have hn4 : 0 < n := by omega
  have hn5 := HS.out.1
  by_cases hp0 : p < 0
  · go_wp2_with fail
    go_ret
    exact ⟨rfl, hbw3⟩
  by_cases hp1 : p > (n : Int)
  · go_wp2_with fail
    go_ret
    exact ⟨rfl, hbw3⟩
  obtain ⟨q, rfl⟩ : ∃ q : Nat, p = q := ⟨p.toNat, by omega⟩
  have hqn : q ≤ n := by omega
  clear hp0
  have hp2 : ¬ ((q : Int) < 0) := by omega
  go_wp2_with fail
  go_at_call 10
  refine (copies_lo a b off n c R w3 ⟨Nat.le_of_lt HS.out.1, HS.out.2.1⟩ hn4 (Below.row H.out hb03)).mono ?_
  rintro e w4 ⟨a4, b4, c4, rfl, ⟨hrow4, hlo4⟩, hb34⟩
  have hb04 : Below W0.heap.size W0 w4 := hb03.trans (hb34.mono hb03.size)
  have hbw4 : Below w.heap.size w w4 := hbw3.trans (hb34.mono hbw3.size)
  have hgb4 : w.heap.size < b4 := by have := hb03.size; omega
  have HRow4 : Hid (RowIn w4 a4 b4 0 n R) := hrow4
  have x20 : w4.cell? ⟨w.heap.size, 20, none⟩ = some (.slice ax lx kx) := by have := (fieldsAt (Below.range HX0.out hb04)).f20; simpa using this
  clear hrow4 hb34 hlo4 hb03 hbw3
  go_wp2_with (go_at_call 21; refine (copy_any _ x.val w4 (Below.val HV0.out hb04) HS.out.2.2).mono ?_)
  rintro e w5 ⟨v5, rfl, hv5, hb45, hq5⟩
  have hb05 : Below W0.heap.size W0 w5 := hb04.trans (hb45.mono hb04.size)
  have hbw5 : Below w.heap.size w w5 := hbw4.trans (hb45.mono hbw4.size)
  have y20 : w5.cell? ⟨w.heap.size, 20, none⟩ = some (.slice ax lx kx) := cell_later hb45 x20
  have yf : w5.frozen? ⟨w.heap.size, 20, none⟩ = false := by
    have := (there_below HT0.out hb05 20 (by omega)).2
    rwa [Nat.zero_add] at this
  obtain ⟨w6, hw6⟩ : ∃ w6, w6 = w5.setCell ⟨w.heap.size, 20, none⟩ v5 := ⟨_, rfl⟩
  have HX6 : Hid (w6.rangeAt w.heap.size 0 (repCells x v5)) := by
    rw [hw6]
    have := rep_setval (v' := v5) (Below.range HX0.out hb05)
    rwa [Nat.zero_add] at this
  have HV6 : Hid (ValIn w6 v5 x.val) := by
    rw [hw6]
    refine val_setCell hv5 _ _ (fun q c n e _ => ?_)
    have := hq5 q n c e
    have := hb04.size
    show q.block ≠ w.heap.size
    omega
  have HRow6 : Hid (RowIn w6 a4 b4 0 n R) := by rw [hw6]; exact row_setCell (Below.row HRow4.out hb45) _ _ y20 (by show b4 ≠ w.heap.size; omega)
  have HB6 : Hid (Below w.heap.size w w6) := by rw [hw6]; exact hbw5.setCell (Nat.le_refl _) _
  have hg86 : w.heap.size < w6.heap.size := by
    rw [hw6]
    have := hb05.size
    simp [World.setCell]; omega
  obtain ⟨a5, l5, k5, e5, z5⟩ := valIn_slice hv5
  subst e5
  have HW6 : Hid (w6 = w5.setCell ⟨w.heap.size, 20, none⟩ (.slice a5 l5 k5)) := hw6
  obtain ⟨zc, hzs, hmk⟩ := make_cap (n + 1) (by omega)
  have hmk' : ∀ w, (Instr.makeSlice 22 (.int .i64 0) (.int .i64 ((n : Int) + 1))).run Tryf.prog w = .ok (.slice (some ⟨w.heap.size, 0, none⟩) 0 (n + 1)) (w.alloc (.cells zc 49)) := fun w => by
    have := hmk w
    rwa [show ((n + 1 : Nat) : Int) = (n : Int) + 1 by omega] at this
  clear hmk hw6 hv5 hq5 z5 hb45 hb05 hbw5 hb04 hbw4 x20 HRow4
  go_upto_region 11 with fail
  rw [← HW6.out]
  obtain ⟨W7, hW7⟩ : ∃ W7, W7 = w6.alloc (.cells zc 49) := ⟨_, rfl⟩
  have HE7 : Hid (ExtAt w6.heap.size n w6 [] 0 W7) := ⟨by rw [hW7]; exact World.ownsRow_made w6 zc (n + 1) (Nat.le_refl _) (by have hmax : maxLen = 9223372036854775807 := rfl; omega) hzs, by rw [hW7]; exact (Below.refl _ _).alloc (Nat.le_refl _) _⟩
  have HW7 : Hid (W7 = w6.alloc (.cells zc 49)) := hW7
  clear hW7 y20 yf
  go_upto_region 12 with fail
  rw [← HW7.out]
  clear hmk'
  -- the values of the replies
  obtain ⟨V, hV⟩ : ∃ V : Nat → Value, ∀ i, i < n → w6.rangeAt b4 (0 + i * 59) (repCells (R i) (V i)) ∧ ValIn w6 (V i) (R i).val := by
    refine ⟨fun i => if hi : i < n then Classical.choose (HRow6.out.rep i hi) else .nilIface, fun i hi => ?_⟩
    simp only [dif_pos hi]
    exact Classical.choose_spec (HRow6.out.rep i hi)
  have HVs : Hid _ := hV
  clear hV
  obtain rfl := HRow6.out.at_ hn4
  have hq1 : (q : Int) ≤ (n : Int) := by omega
  generalize hg : w6.heap.size = g at *
  have HG : Hid (w6.heap.size = g) := hg
  clear hg hzs
  go_wp2_with fail
  go_loopw [11, 12] (fun e i wr => ∃ k : Nat, k ≤ q ∧ i = .int .i64 k ∧ e = .slice (some ⟨g, 0, none⟩) k (n + 1) ∧ ExtAt g n w6 (flat (ins R x q) (insV V (.slice a5 l5 k5) q) k) k wr) (fun _ i _ => q - (intOf i).toNat)
  case atStart => exact ⟨0, Nat.zero_le _, rfl, rfl, HE7.out⟩
  case round =>
    obtain ⟨k, hk, rfl, rfl, hE⟩ := hrel
    have HE : Hid _ := hE
    clear hE HE7
    by_cases hlt : k < q
    · have hkn : (k : Int) < (n : Int) := by omega
      have hk0 : (0 : Int) ≤ (k : Int) := by omega
      have hkq : (k : Int) < (q : Int) := by omega
      have HRk : Hid (wr.rangeAt b4 (k * 59) (repCells (R k) (V k))) := by
        have := Below.range (HVs.out k (by omega)).1 (HG.out ▸ HE.out.bel)
        rwa [Nat.zero_add] at this
      have HVk : Hid ((V k).oneCell' = true) := valIn_one (HVs.out k (by omega)).2
      go_wp2_with (first | refine wpList_get49 rfl _ rfl _ _ (R k) (V k) rfl HRk.out ?_ | (refine wpList_build1 rfl _ rfl (R k) (V k) rfl ?_; clear HRk) | (refine wpList_app rfl _ _ rfl g g k (n + 1) _ rfl (HE.out.own.alloc _) wr.heap.size rfl (R k) (V k) (range_box _ _ _) HVk.out (by omega) ?_; intro w' HO' HG'; clear HVk))
      have hb' : Below g w6 w' := (HE.out.bel.alloc (by have := HE.out.bel.size; rw [HG.out] at this; exact this) _).trans (grown_below HG'.out (Nat.le_refl _) (by have := HE.out.bel.size; rw [HG.out] at this; simp; omega))
      go_roundw
      case rel => exact ⟨k + 1, by omega, by go_num, rfl, by rw [← flat_lt hlt]; exact HO'.out, hb'⟩
      case measure => simp [intOf]; omega
    · obtain rfl : k = q := by omega
      have HXk : Hid (wr.rangeAt w.heap.size 0 (repCells x (.slice a5 l5 k5))) := Below.range HX6.out (HG.out ▸ HE.out.bel)
      go_upto_region 17 with (first | refine wpList_get49 rfl _ rfl _ _ x (.slice a5 l5 k5) rfl HXk.out ?_ | (refine wpList_build1 rfl _ rfl x (.slice a5 l5 k5) rfl ?_; clear HXk) | (refine wpList_app rfl _ _ rfl g g k (n + 1) _ rfl (HE.out.own.alloc _) wr.heap.size rfl x (.slice a5 l5 k5) (range_box _ _ _) rfl (by omega) ?_; intro w8 HO8 HG8))
      have hb8 : Below g w6 w8 := (HE.out.bel.alloc (by have := HE.out.bel.size; rw [HG.out] at this; exact this) _).trans (grown_below HG8.out (Nat.le_refl _) (by have := HE.out.bel.size; rw [HG.out] at this; simp; omega))
      have HE8 : Hid (ExtAt g n w6 (flat (ins R x k) (insV V (.slice a5 l5 k5) k) (k + 1)) (k + 1) w8) := ⟨by rw [← flat_at]; exact HO8.out, hb8⟩
      clear HO8 HG8 HE hb8
      go_wp2_with fail
      go_loopw [11, 13] (fun e i wr => ∃ j : Nat, k ≤ j ∧ j ≤ n ∧ i = .int .i64 j ∧ e = .slice (some ⟨g, 0, none⟩) (j + 1) (n + 1) ∧ ExtAt g n w6 (flat (ins R x k) (insV V (.slice a5 l5 k5) k) (j + 1)) (j + 1) wr) (fun _ i _ => n - (intOf i).toNat)
      case atStart => exact ⟨k, Nat.le_refl _, hqn, rfl, rfl, HE8.out⟩
      case round =>
        obtain ⟨j, hj1, hj, rfl, rfl, hE⟩ := hrel
        have HE : Hid _ := hE
        clear hE HE8
        by_cases hlt2 : j < n
        · have hkn : (j : Int) < (n : Int) := by omega
          have hk0 : (0 : Int) ≤ (j : Int) := by omega
          have HRk : Hid (wr.rangeAt b4 (j * 59) (repCells (R j) (V j))) := by
            have := Below.range (HVs.out j (by omega)).1 (HG.out ▸ HE.out.bel)
            rwa [Nat.zero_add] at this
          have HVk : Hid ((V j).oneCell' = true) := valIn_one (HVs.out j (by omega)).2
          go_wp2_with (first | refine wpList_get49 rfl _ rfl _ _ (R j) (V j) rfl HRk.out ?_ | (refine wpList_build1 rfl _ rfl (R j) (V j) rfl ?_; clear HRk) | (refine wpList_app rfl _ _ rfl g g (j + 1) (n + 1) _ rfl (HE.out.own.alloc _) wr.heap.size rfl (R j) (V j) (range_box _ _ _) HVk.out (by omega) ?_; intro w' HO' HG'; clear HVk))
          have hb' : Below g w6 w' := (HE.out.bel.alloc (by have := HE.out.bel.size; rw [HG.out] at this; exact this) _).trans (grown_below HG'.out (Nat.le_refl _) (by have := HE.out.bel.size; rw [HG.out] at this; simp; omega))
          go_roundw
          case rel => exact ⟨j + 1, by omega, by omega, by go_num, rfl, by rw [← flat_gt hj1]; exact HO'.out, hb'⟩
          case measure => simp [intOf]; omega
        · obtain rfl : n = j := by omega
          have hbg : Below w6.heap.size w6 wr := HG.out ▸ HE.out.bel
          have HRowL : Hid (RowIn wr (some ⟨b4, 0, none⟩) b4 0 n R) := Below.row HRow6.out hbg
          have HExt0 : Hid (RowIn wr (some ⟨g, 0, none⟩) g 0 (n + 1) (ins R x k)) := flat_row HE.out.own (insVal (fun i hi => Below.val (HVs.out i hi).2 hbg) (Below.val HV6.out hbg) hqn)
          have HXL : Hid (wr.rangeAt w.heap.size 0 (repCells x (.slice a5 l5 k5))) := Below.range HX6.out hbg
          have HXVL : Hid (ValIn wr (.slice a5 l5 k5) x.val) := Below.val HV6.out hbg
          have HBL : Hid (Below w.heap.size w wr) := HB6.out.trans (hbg.mono (by rw [HG.out]; omega))
          have HSm : Hid (Small n R) := ⟨Nat.le_of_lt HS.out.1, HS.out.2.1⟩
          have HSmE0 : Hid (Small (n + 1) (ins R x k)) := insSmall HS.out hqn
          have hn6 : n ≤ 1048576 := by omega
          have hn7 : n + 1 ≤ 1048576 := by omega
          obtain ⟨E, hE⟩ : ∃ E, E = ins R x k := ⟨_, rfl⟩
          have HExt : Hid (RowIn wr (some ⟨g, 0, none⟩) g 0 (n + 1) E) := by rw [hE]; exact HExt0.out
          have HSmE : Hid (Small (n + 1) E) := by rw [hE]; exact HSmE0.out
          have HEq : Hid (E = ins R x k) := hE
          clear hE HExt0 HSmE0 HE HVs HRow6 HX6 HV6 HB6 hbg HX0 HT0 HV0 H HO HW6 HW7 hg86 HG HW0 HI49
          by_cases hkg : KeyGood key
          · have HK : Hid (KeyGood key) := hkg
            clear hkg
            go_wp2_with fail
            go_at_call 11
            refine (new_ok key mode wr HK.out).mono ?_
            rintro e w10 ⟨rfl, hw10⟩
            obtain ⟨hrd, hb10, hs10⟩ := new_read key mode wr
            rw [← hw10] at hrd hb10 hs10
            clear hw10
            have HA10 : Hid _ := hrd
            have HS10 : Hid _ := hs10
            clear hrd hs10
            go_wp2_with fail
            go_at_call 11
            refine (new_ok key mode w10 HK.out).mono ?_
            rintro e w11 ⟨rfl, hw11⟩
            obtain ⟨hrd, hb1011, hs11⟩ := new_read key mode w10
            rw [← hw11] at hrd hb1011 hs11
            clear hw11
            have HB11 : Hid _ := hrd
            have HA11 : Hid (ReadAt w11 wr.heap.size key mode zeroRep false) := Below.read HA10.out hb1011
            have hb11 : Below wr.heap.size wr w11 := hb10.trans (hb1011.mono hb10.size)
            have hs10 := HS10.out
            have hpa : wr.heap.size < w11.heap.size := by omega
            have hpb : w10.heap.size < w11.heap.size := by omega
            have hpab : wr.heap.size < w10.heap.size := by omega
            clear hrd HA10 HS10 hs10 hs11 hb10 hb1011
            go_wp2_with fail
            go_at_call 12
            refine (keyOK_any key w11 hkey).mono ?_
            rintro e wk ⟨⟨r, rfl, hr⟩, hwk⟩
            rw [hwk]
            clear hwk wk
            obtain rfl : r = true := hr.2 HK.out
            clear hr
            go_wp2_with fail
            go_at_call 15
            refine (msgs_any (some ⟨b4, 0, none⟩) b4 0 n c4 R w11 HSm.out (Below.row HRowL.out hb11)).mono ?_
            rintro e w12 ⟨a12, b12, c12, rfl, hm12, hb12⟩
            have HMs : Hid _ := hm12
            have HA12 : Hid (ReadAt w12 wr.heap.size key mode zeroRep false) := Below.read HA11.out hb12
            have HB12 : Hid (ReadAt w12 w10.heap.size key mode zeroRep false) := Below.read HB11.out hb12
            clear hm12 HA11 HB11
            go_wp2_with fail
            go_at_call 14
            refine (comp_firstLo wr.heap.size key mode zeroRep w11.heap.size a12 b12 0 n c12 R w12 HA12.out HMs.out hpa (msgs_apart HMs.out hn4 HA12.out) hn4 hn6).mono ?_
            rintro e w13 ⟨⟨⟨zA, rfl, _⟩, hrd13, hbut13⟩, hlow13⟩
            have HA13 : Hid _ := hrd13
            have HL13 : Hid _ := hlow13
            have hp12 : wr.heap.size < w12.heap.size := by have := hb12.size; omega
            have hb13 : Below wr.heap.size wr w13 := (hb11.trans (hb12.mono hb11.size)).trans (hbut13.below _ (Nat.le_refl _) hp12)
            have hs13 : w11.heap.size ≤ w13.heap.size := Nat.le_trans hb12.size hbut13.size
            have HB13 : Hid (ReadAt w13 w10.heap.size key mode zeroRep false) := butAt_read (lo := w11.heap.size) HB12.out hbut13 (by omega) (low_zero HB12.out) hpa
            clear hrd13 hlow13 HMs HA12 HB12 hbut13 hb12 hb11 hp12
            go_wp2_with fail
            go_at_call 15
            refine (msgs_any (some ⟨g, 0, none⟩) g 0 (n + 1) (n + 1) E w13 HSmE.out (Below.row HExt.out hb13)).mono ?_
            rintro e w14 ⟨a14, b14, c14, rfl, hm14, hb14⟩
            have HMs : Hid _ := hm14
            have HA14 : Hid (ReadAt w14 wr.heap.size key mode (R (hi R (n - 1))) true) := Below.read HA13.out hb14
            have HL14 : Hid (∀ v, w14.cell? ⟨wr.heap.size, 22, none⟩ = some v → LoV w11.heap.size v) := low_later HA13.out HL13.out hb14
            have HB14 : Hid (ReadAt w14 w10.heap.size key mode zeroRep false) := Below.read HB13.out hb14
            clear hm14 HA13 HB13 HL13
            go_wp2_with fail
            go_at_call 14
            refine (comp_first w10.heap.size key mode zeroRep w13.heap.size a14 b14 0 (n + 1) c14 E w14 HB14.out HMs.out (by omega) (msgs_apart HMs.out (by omega) HB14.out) (by omega) hn7).mono ?_
            rintro e w15 ⟨⟨zB, rfl, _⟩, hrd15, hbut15⟩
            obtain ⟨J, hJ⟩ : ∃ J, J = hi R (n - 1) := ⟨_, rfl⟩
            have hJn : J < n := by have := hi_le R (n - 1); omega
            have HFM : Hid (FirstMax R (n - 1) J) := by rw [hJ]; exact hi_first R (n - 1)
            obtain ⟨X, hX⟩ : ∃ X, X = E (hi E (n + 1 - 1)) := ⟨_, rfl⟩
            have HXE : Hid (X = ins R x k (hi (ins R x k) n)) := by rw [hX, HEq.out, Nat.add_sub_cancel]; rfl
            have HVX : Hid ((X.val.getD []).length ≤ 1048576) := by
              rw [hX]
              exact HSmE.out.2 _ (by have := hi_le E (n + 1 - 1); omega)
            have HVL : Hid (((R J).val.getD []).length ≤ 1048576) := HSm.out.2 _ hJn
            have HB15 : Hid (ReadAt w15 w10.heap.size key mode X true) := by rw [hX]; exact hrd15
            have HA15 : Hid (ReadAt w15 wr.heap.size key mode (R J) true) := by rw [hJ]; exact butAt_read HA14.out hbut15 (by omega) HL14.out hpb
            have hp14 : w10.heap.size < w14.heap.size := by have := hb14.size; omega
            have hb15 : Below wr.heap.size wr w15 := by
              have h14 : Below wr.heap.size wr w14 := hb13.trans (hb14.mono hb13.size)
              exact h14.trans (hbut15.below _ (by omega) hp14)
            have HJ : Hid (J = hi R (n - 1)) := hJ
            have hJ0 : (0 : Int) ≤ (J : Int) := by omega
            have hJ2 : (J : Int) < (n : Int) := by omega
            clear hrd15 HMs HA14 HB14 HL14 hbut15 hb14 hb13 hp14 hJ hX HSmE HExt HEq hs13
            go_wp2_with fail
            go_at_call 13
            refine (req_store wr.heap.size key mode (R J) w15 HA15.out).mono ?_
            rintro e w16 ⟨v16, rfl, hv16, hb16⟩
            have HV16 : Hid (ValIn w16 v16 (R J).val) := hv16
            clear hv16
            go_wp2_with (first | (refine wpList_new 18 rfl rfl 43 60 rfl zero43 ?_; intro W17 N17) | (refine wpList_put43 rfl _ _ rfl _ _ (storeRep key (R J)) v16 rfl rfl (valIn_one HV16.out) N17.out.th ?_; have b17 := boxNew N17.out (msgCells_len (storeRep key (R J)) v16); generalize W17.setCells w16.heap.size 0 (msgCells (storeRep key (R J)) v16) = w17 at b17 ⊢; clear N17 W17))
            have hb1517 : Below w15.heap.size w15 w17 := hb16.trans (b17.bel.mono hb16.size)
            have K18 : Hid (w17.rangeAt w16.heap.size 0 (msgCells (storeRep key (R J)) v16)) := b17.range
            have K18v : Hid (ValIn w17 v16 (R J).val) := Below.val HV16.out b17.bel
            have HB17 : Hid (ReadAt w17 w10.heap.size key mode X true) := Below.read HB15.out hb1517
            have hb17 : Below wr.heap.size wr w17 := hb15.trans (hb1517.mono hb15.size)
            clear b17 HV16 HA15 HB15 hb16 hb1517 hb15
            go_at_call 13
            refine (req_store w10.heap.size key mode X w17 HB17.out).mono ?_
            rintro e w18 ⟨v18, rfl, hv18, hb18⟩
            have HV18 : Hid (ValIn w18 v18 X.val) := hv18
            clear hv18
            go_wp2_with (first | (refine wpList_new 19 rfl rfl 43 60 rfl zero43 ?_; intro W19 N19) | (refine wpList_put43 rfl _ _ rfl _ _ (storeRep key X) v18 rfl rfl (valIn_one HV18.out) N19.out.th ?_; have b19 := boxNew N19.out (msgCells_len (storeRep key X) v18); generalize W19.setCells w18.heap.size 0 (msgCells (storeRep key X) v18) = w19 at b19 ⊢; clear N19 W19))
            have hb1719 : Below w17.heap.size w17 w19 := hb18.trans (b19.bel.mono hb18.size)
            have L18 : Hid (w19.rangeAt w16.heap.size 0 (msgCells (storeRep key (R J)) v16)) := Below.range K18.out hb1719
            have L18v : Hid (ValIn w19 v16 (R J).val) := Below.val K18v.out hb1719
            have L19 : Hid (w19.rangeAt w18.heap.size 0 (msgCells (storeRep key X) v18)) := b19.range
            have L19v : Hid (ValIn w19 v18 X.val) := Below.val HV18.out b19.bel
            have hb19 : Below wr.heap.size wr w19 := hb17.trans (hb1719.mono hb17.size)
            clear b19 HV18 HB17 hb18 hb1719 hb17 K18 K18v
            go_at_call 16
            refine (hiIdx_any (some ⟨b4, 0, none⟩) b4 0 n c4 R w19 (Below.row HRowL.out hb19) hn4 hn6).mono ?_
            rintro e w20 ⟨rfl, hb20⟩
            rw [← HJ.out]
            have hbw20 : Below wr.heap.size wr w20 := hb19.trans (hb20.mono hb19.size)
            obtain ⟨vJ, hrJ, hvJ⟩ := Below.rep (HRowL.out.rep J hJn) hbw20
            have HRJ : Hid (w20.rangeAt b4 (J * 59) (repCells (R J) vJ)) := by rw [Nat.zero_add] at hrJ; exact hrJ
            have HVJ : Hid (ValIn w20 vJ (R J).val) := hvJ
            clear hrJ hvJ
            go_upto_region 33 with (first | refine wpList_get49 rfl _ rfl _ _ (R J) vJ rfl HRJ.out ?_ | (refine wpList_new 21 rfl rfl 49 59 rfl zero49 ?_; intro W21 N21) | (refine wpList_put49 rfl _ _ rfl _ _ (R J) vJ rfl rfl (valIn_one HVJ.out) N21.out.th ?_; have b21 := boxNew N21.out (repCells_len (R J) vJ); generalize W21.setCells w20.heap.size 0 (repCells (R J) vJ) = w21 at b21 ⊢; clear N21 W21))
            have B21 : Hid _ := b21
            clear b21 HRJ
            go_upto_region 34 with (first | refine wpList_get49 rfl _ rfl _ _ (R J) vJ rfl B21.out.range ?_ | (refine wpList_new 22 rfl rfl 49 59 rfl zero49 ?_; intro W22 N22) | (refine wpList_put49 rfl _ _ rfl _ _ (R J) vJ rfl rfl (valIn_one HVJ.out) N22.out.th ?_; have b22 := boxNew N22.out (repCells_len (R J) vJ); have t22 := World.there_setCells N22.out.th w21.heap.size 0 (repCells (R J) vJ); generalize W22.setCells w21.heap.size 0 (repCells (R J) vJ) = w22 at b22 t22 ⊢; clear N22 W22))
            have hb1921 : Below w19.heap.size w19 w21 := hb20.trans (B21.out.bel.mono hb20.size)
            have hb21 : Below wr.heap.size wr w21 := hb19.trans (hb1921.mono hb19.size)
            have Q18 : Hid (w21.rangeAt w16.heap.size 0 (msgCells (storeRep key (R J)) v16)) := Below.range L18.out hb1921
            have Q18v : Hid (ValIn w21 v16 (R J).val) := Below.val L18v.out hb1921
            have Q19 : Hid (w21.rangeAt w18.heap.size 0 (msgCells (storeRep key X) v18)) := Below.range L19.out hb1921
            have Q19v : Hid (ValIn w21 v18 X.val) := Below.val L19v.out hb1921
            have Q21 : Hid (w21.rangeAt w20.heap.size 0 (repCells (R J) vJ)) := B21.out.range
            have Q21v : Hid (ValIn w21 vJ (R J).val) := Below.val HVJ.out B21.out.bel
            have QX : Hid (w21.rangeAt w.heap.size 0 (repCells x (.slice a5 l5 k5))) := Below.range HXL.out hb21
            have QXv : Hid (ValIn w21 (.slice a5 l5 k5) x.val) := Below.val HXVL.out hb21
            have HB21 : Hid (Below w.heap.size w w21) := HBL.out.trans (hb21.mono HBL.out.size)
            have R22 : Hid (w22.rangeAt w21.heap.size 0 (repCells (R J) vJ)) := b22.range
            have T22 : Hid (w22.there w21.heap.size 0 59) := t22
            have hb22 : Below w21.heap.size w21 w22 := b22.bel
            clear b22 t22 B21 HVJ hb1921 hb21 hb20 hbw20 hb19 L18 L18v L19 L19v HXL HXVL HBL
            have F3 := (boxAt_rep (Below.range Q21.out hb22)).f3
            have G3 := (boxAt_rep (Below.range QX.out hb22)).f3
            have F4 : Hid (w22.rangeAt w20.heap.size 4 (R J).tw.cells) := (boxAt_rep (Below.range Q21.out hb22)).f4
            have G4 : Hid (w22.rangeAt w.heap.size 4 x.tw.cells) := (boxAt_rep (Below.range QX.out hb22)).f4
            go_wp2_with (first | refine wpList_valueIf rfl (exec_load_mid 36 _ rfl _ _ rfl _ _ F4.out Tryf.underlying36 rfl (id36 _)) ?_ | refine wpList_valueIf rfl (exec_load_mid 36 _ rfl _ _ rfl _ _ G4.out Tryf.underlying36 rfl (id36 _)) ?_ | (go_at_call 22; refine (less_any (R J).tn (R J).tw x.tn x.tw w22).mono ?_))
            rintro e w23 ⟨rfl, hb2223⟩
            have c23 : Below w21.heap.size w21 w23 := hb22.trans (hb2223.mono hb22.size)
            have R23 : Hid (w23.rangeAt w21.heap.size 0 (repCells (R J) vJ)) := Below.range R22.out hb2223
            have T23 : Hid (w23.there w21.heap.size 0 59) := there_below T22.out hb2223
            clear F3 G3 F4 G4 hb2223 hb22 R22 T22
            obtain ⟨zl, hzl⟩ : ∃ zl, tagLess (R J).tn (R J).tw x.tn x.tw = zl := ⟨_, rfl⟩
            rw [hzl]
            have HZL : Hid (repLess (R J) x = zl) := hzl
            clear hzl
            cases zl with
            | true =>
              have hXx : X = x := HXE.out.trans (ins_x hn4 hqn HFM.out (.inl ((repLess_rk _ _).1 HZL.out)))
              have hne : repEq (R J) x = false := by
                have h1 := (repLess_rk _ _).1 HZL.out
                cases hq : repEq (R J) x with
                | false => rfl
                | true => have := (repEq_rk _ _).1 hq; omega
              obtain rfl : x = X := hXx.symm
              have HNE : Hid (repEq (R J) x = false) := hne
              clear hXx hne
              have NX : Hid (w23.rangeAt w.heap.size 0 (repCells x (.slice a5 l5 k5))) := Below.range QX.out c23
              go_upto_region 36 with (first | refine wpList_get49 rfl _ rfl _ _ x (.slice a5 l5 k5) rfl NX.out ?_ | (refine wpList_put49 rfl _ _ rfl _ _ x (.slice a5 l5 k5) rfl rfl rfl T23.out ?_; have r24 := World.rangeAt_setCells_same w23 w21.heap.size 0 (repCells x (.slice a5 l5 k5)) (by rw [repCells_len]; exact T23.out); have c24 := Below.setCells (Nat.le_refl _) (repCells x (.slice a5 l5 k5)) 0 _ c23; generalize w23.setCells w21.heap.size 0 (repCells x (.slice a5 l5 k5)) = w24 at r24 c24 ⊢; clear NX T23))
              have R24 : Hid _ := r24
              clear r24 R23 c23
              have E1 : Hid (w24.rangeAt w20.heap.size 0 (repCells (R J) vJ)) := Below.range Q21.out c24
              have E2 : Hid (w24.rangeAt w.heap.size 0 (repCells x (.slice a5 l5 k5))) := Below.range QX.out c24
              go_wp2_with (first | refine wpList_get49 rfl _ rfl _ _ (R J) vJ rfl E1.out ?_ | refine wpList_get49 rfl _ rfl _ _ x (.slice a5 l5 k5) rfl E2.out ?_ | (go_at_call 23; refine (sameTag_any (R J) x vJ (.slice a5 l5 k5) w24).mono ?_))
              rintro e w25 ⟨rfl, hb25⟩
              have c25 : Below w21.heap.size w21 w25 := c24.trans (hb25.mono c24.size)
              clear E1 E2
              rw [HNE.out]
              have R25 : Hid (w25.rangeAt w21.heap.size 0 (repCells x (.slice a5 l5 k5))) := Below.range R24.out hb25
              have V25 : Hid (ValIn w25 (.slice a5 l5 k5) x.val) := Below.val QXv.out c25
              clear hb25 c24 R24
              go_upto_region 38 with fail
              have P18 : Hid (w25.rangeAt w16.heap.size 0 (msgCells (storeRep key (R J)) v16)) := Below.range Q18.out c25
              have P21 : Hid (w25.rangeAt w20.heap.size 0 (repCells (R J) vJ)) := Below.range Q21.out c25
              go_wp2_with (first | refine wpList_get43if rfl _ rfl _ _ (storeRep key (R J)) v16 rfl P18.out ?_ | refine wpList_get49 rfl _ rfl _ _ (R J) vJ rfl P21.out ?_ | (go_at_call 18; refine (isStore_any key (R J) v16 vJ w25 (Below.val Q18v.out c25) (Below.val Q21v.out c25) HVL.out).mono ?_))
              rintro e w31 ⟨rfl, hb31⟩
              have c31 : Below w21.heap.size w21 w31 := c25.trans (hb31.mono c25.size)
              have P19 : Hid (w31.rangeAt w18.heap.size 0 (msgCells (storeRep key x) v18)) := Below.range Q19.out c31
              have P22 : Hid (w31.rangeAt w21.heap.size 0 (repCells x (.slice a5 l5 k5))) := Below.range R25.out hb31
              have P22v : Hid (ValIn w31 (.slice a5 l5 k5) x.val) := Below.val V25.out hb31
              clear P18 P21 hb31
              go_wp2_with (first | refine wpList_get43if rfl _ rfl _ _ (storeRep key x) v18 rfl P19.out ?_ | refine wpList_get49 rfl _ rfl _ _ x (.slice a5 l5 k5) rfl P22.out ?_ | (go_at_call 18; refine (isStore_any key x v18 (.slice a5 l5 k5) w31 (Below.val Q19v.out c31) P22v.out HVX.out).mono ?_))
              rintro e w32 ⟨rfl, hb32⟩
              have c32 : Below w21.heap.size w21 w32 := c31.trans (hb32.mono c31.size)
              clear P19 P22 P22v hb32 c31
              go_wp2_with fail
              go_ret
              exact ⟨rfl, HB21.out.trans (c32.mono HB21.out.size)⟩
            | false =>
              have hnl : Hid (¬ rk (R J) < rk x) := fun q => by
                have := (repLess_rk _ _).2 q
                rw [HZL.out] at this
                cases this
              go_upto_region 36 with fail
              obtain ⟨w24, hw24⟩ : ∃ w24, w24 = w23 := ⟨_, rfl⟩
              rw [← hw24]
              rw [← hw24] at c23 R23 T23
              clear hw24
              have E1 : Hid (w24.rangeAt w20.heap.size 0 (repCells (R J) vJ)) := Below.range Q21.out c23
              have E2 : Hid (w24.rangeAt w.heap.size 0 (repCells x (.slice a5 l5 k5))) := Below.range QX.out c23
              go_wp2_with (first | refine wpList_get49 rfl _ rfl _ _ (R J) vJ rfl E1.out ?_ | refine wpList_get49 rfl _ rfl _ _ x (.slice a5 l5 k5) rfl E2.out ?_ | (go_at_call 23; refine (sameTag_any (R J) x vJ (.slice a5 l5 k5) w24).mono ?_))
              rintro e w25 ⟨rfl, hb25⟩
              have c25 : Below w21.heap.size w21 w25 := c23.trans (hb25.mono c23.size)
              clear E1 E2
              obtain ⟨ze, hze⟩ : ∃ ze, repEq (R J) x = ze := ⟨_, rfl⟩
              rw [hze]
              have R25 : Hid (w25.rangeAt w21.heap.size 0 (repCells (R J) vJ)) := Below.range R23.out hb25
              have T25 : Hid (w25.there w21.heap.size 0 59) := there_below T23.out hb25
              clear hb25 c23 R23 T23
              by_cases hcase : ze = true ∧ k ≤ J
              · obtain ⟨rfl, hkJ⟩ := hcase
                have hXx : X = x := HXE.out.trans (ins_x hn4 hqn HFM.out (.inr ⟨(repEq_rk _ _).1 hze, hkJ⟩))
                obtain rfl : x = X := hXx.symm
                have HZE : Hid _ := hze
                clear hXx hze
                have hkJ2 : (k : Int) ≤ (J : Int) := by omega
                have NX : Hid (w25.rangeAt w.heap.size 0 (repCells x (.slice a5 l5 k5))) := Below.range QX.out c25
                go_upto_region 38 with (first | refine wpList_get49 rfl _ rfl _ _ x (.slice a5 l5 k5) rfl NX.out ?_ | (refine wpList_put49 rfl _ _ rfl _ _ x (.slice a5 l5 k5) rfl rfl rfl T25.out ?_; have r26 := World.rangeAt_setCells_same w25 w21.heap.size 0 (repCells x (.slice a5 l5 k5)) (by rw [repCells_len]; exact T25.out); have c26 := Below.setCells (Nat.le_refl _) (repCells x (.slice a5 l5 k5)) 0 _ c25; generalize w25.setCells w21.heap.size 0 (repCells x (.slice a5 l5 k5)) = w26 at r26 c26 ⊢; clear NX T25))
                clear R25 c25
                have R25 : Hid _ := r26
                have V25 : Hid (ValIn w26 (.slice a5 l5 k5) x.val) := Below.val QXv.out c26
                clear r26
                have P18 : Hid (w26.rangeAt w16.heap.size 0 (msgCells (storeRep key (R J)) v16)) := Below.range Q18.out c26
                have P21 : Hid (w26.rangeAt w20.heap.size 0 (repCells (R J) vJ)) := Below.range Q21.out c26
                go_wp2_with (first | refine wpList_get43if rfl _ rfl _ _ (storeRep key (R J)) v16 rfl P18.out ?_ | refine wpList_get49 rfl _ rfl _ _ (R J) vJ rfl P21.out ?_ | (go_at_call 18; refine (isStore_any key (R J) v16 vJ w26 (Below.val Q18v.out c26) (Below.val Q21v.out c26) HVL.out).mono ?_))
                rintro e w31 ⟨rfl, hb31⟩
                have c31 : Below w21.heap.size w21 w31 := c26.trans (hb31.mono c26.size)
                have P19 : Hid (w31.rangeAt w18.heap.size 0 (msgCells (storeRep key x) v18)) := Below.range Q19.out c31
                have P22 : Hid (w31.rangeAt w21.heap.size 0 (repCells x (.slice a5 l5 k5))) := Below.range R25.out hb31
                have P22v : Hid (ValIn w31 (.slice a5 l5 k5) x.val) := Below.val V25.out hb31
                clear P18 P21 hb31
                go_wp2_with (first | refine wpList_get43if rfl _ rfl _ _ (storeRep key x) v18 rfl P19.out ?_ | refine wpList_get49 rfl _ rfl _ _ x (.slice a5 l5 k5) rfl P22.out ?_ | (go_at_call 18; refine (isStore_any key x v18 (.slice a5 l5 k5) w31 (Below.val Q19v.out c31) P22v.out HVX.out).mono ?_))
                rintro e w32 ⟨rfl, hb32⟩
                have c32 : Below w21.heap.size w21 w32 := c31.trans (hb32.mono c31.size)
                clear P19 P22 P22v hb32 c31
                go_wp2_with fail
                go_ret
                exact ⟨rfl, HB21.out.trans (c32.mono HB21.out.size)⟩
              · have hXx : X = R J := HXE.out.trans (ins_h hn4 hqn HFM.out (by have := hnl.out; omega) (fun q => hcase ⟨by rw [← hze]; exact (repEq_rk _ _).2 q.1, q.2⟩))
                obtain rfl : R J = X := hXx.symm
                clear hXx
                have V25 : Hid (ValIn w25 vJ (R J).val) := Below.val Q21v.out c25
                cases ze with
                | false =>
                  have HZE : Hid _ := hze
                  clear hze hcase
                  go_upto_region 38 with fail
                  have P18 : Hid (w25.rangeAt w16.heap.size 0 (msgCells (storeRep key (R J)) v16)) := Below.range Q18.out c25
                  have P21 : Hid (w25.rangeAt w20.heap.size 0 (repCells (R J) vJ)) := Below.range Q21.out c25
                  go_wp2_with (first | refine wpList_get43if rfl _ rfl _ _ (storeRep key (R J)) v16 rfl P18.out ?_ | refine wpList_get49 rfl _ rfl _ _ (R J) vJ rfl P21.out ?_ | (go_at_call 18; refine (isStore_any key (R J) v16 vJ w25 (Below.val Q18v.out c25) (Below.val Q21v.out c25) HVL.out).mono ?_))
                  rintro e w31 ⟨rfl, hb31⟩
                  have c31 : Below w21.heap.size w21 w31 := c25.trans (hb31.mono c25.size)
                  have P19 : Hid (w31.rangeAt w18.heap.size 0 (msgCells (storeRep key (R J)) v18)) := Below.range Q19.out c31
                  have P22 : Hid (w31.rangeAt w21.heap.size 0 (repCells (R J) vJ)) := Below.range R25.out hb31
                  have P22v : Hid (ValIn w31 vJ (R J).val) := Below.val V25.out hb31
                  clear P18 P21 hb31
                  go_wp2_with (first | refine wpList_get43if rfl _ rfl _ _ (storeRep key (R J)) v18 rfl P19.out ?_ | refine wpList_get49 rfl _ rfl _ _ (R J) vJ rfl P22.out ?_ | (go_at_call 18; refine (isStore_any key (R J) v18 vJ w31 (Below.val Q19v.out c31) P22v.out HVX.out).mono ?_))
                  rintro e w32 ⟨rfl, hb32⟩
                  have c32 : Below w21.heap.size w21 w32 := c31.trans (hb32.mono c31.size)
                  clear P19 P22 P22v hb32 c31
                  go_wp2_with fail
                  go_ret
                  exact ⟨rfl, HB21.out.trans (c32.mono HB21.out.size)⟩
                | true =>
                  have hkJ2 : ¬ ((k : Int) ≤ (J : Int)) := fun q => hcase ⟨rfl, by omega⟩
                  have HZE : Hid _ := hze
                  clear hze hcase
                  go_upto_region 38 with fail
                  have P18 : Hid (w25.rangeAt w16.heap.size 0 (msgCells (storeRep key (R J)) v16)) := Below.range Q18.out c25
                  have P21 : Hid (w25.rangeAt w20.heap.size 0 (repCells (R J) vJ)) := Below.range Q21.out c25
                  go_wp2_with (first | refine wpList_get43if rfl _ rfl _ _ (storeRep key (R J)) v16 rfl P18.out ?_ | refine wpList_get49 rfl _ rfl _ _ (R J) vJ rfl P21.out ?_ | (go_at_call 18; refine (isStore_any key (R J) v16 vJ w25 (Below.val Q18v.out c25) (Below.val Q21v.out c25) HVL.out).mono ?_))
                  rintro e w31 ⟨rfl, hb31⟩
                  have c31 : Below w21.heap.size w21 w31 := c25.trans (hb31.mono c25.size)
                  have P19 : Hid (w31.rangeAt w18.heap.size 0 (msgCells (storeRep key (R J)) v18)) := Below.range Q19.out c31
                  have P22 : Hid (w31.rangeAt w21.heap.size 0 (repCells (R J) vJ)) := Below.range R25.out hb31
                  have P22v : Hid (ValIn w31 vJ (R J).val) := Below.val V25.out hb31
                  clear P18 P21 hb31
                  go_wp2_with (first | refine wpList_get43if rfl _ rfl _ _ (storeRep key (R J)) v18 rfl P19.out ?_ | refine wpList_get49 rfl _ rfl _ _ (R J) vJ rfl P22.out ?_ | (go_at_call 18; refine (isStore_any key (R J) v18 vJ w31 (Below.val Q19v.out c31) P22v.out HVX.out).mono ?_))
                  rintro e w32 ⟨rfl, hb32⟩
                  have c32 : Below w21.heap.size w21 w32 := c31.trans (hb32.mono c31.size)
                  clear P19 P22 P22v hb32 c31
                  go_wp2_with fail
                  go_ret
                  exact ⟨rfl, HB21.out.trans (c32.mono HB21.out.size)⟩
          · have HK : Hid (¬ KeyGood key) := hkg
            clear hkg
            go_wp2_with fail
            go_at_call 11
            refine (new_bad F key mode wr (by rw [HBL.out.tape]; exact HF.out) HK.out hkey).mono ?_
            rintro e w10 ⟨q1, rfl, hb10⟩
            have HB10 : Hid (Below w.heap.size w w10) := HBL.out.trans (hb10.mono HBL.out.size)
            go_wp2_with fail
            go_at_call 11
            refine (new_bad F key mode w10 (by rw [HB10.out.tape]; exact HF.out) HK.out hkey).mono ?_
            rintro e w11 ⟨q2, rfl, hb11⟩
            have HB11 : Hid (Below w.heap.size w w11) := HB10.out.trans (hb11.mono HB10.out.size)
            go_wp2_with fail
            go_at_call 12
            refine (keyOK_any key w11 hkey).mono ?_
            rintro e wk ⟨⟨r, rfl, hr⟩, hwk⟩
            rw [hwk]
            clear hwk wk
            cases r with
            | true => exact absurd (hr.1 rfl) HK.out
            | false =>
              clear hr
              go_wp2_with fail
              go_ret
              exact ⟨rfl, HB11.out⟩
end Go.Proofs.Qxb6615539aFmt
