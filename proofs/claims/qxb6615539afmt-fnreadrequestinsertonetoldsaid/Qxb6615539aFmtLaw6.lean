import Derived.Test.Qxb6615539aFmtOne
namespace Go.Proofs.Qxb6615539aFmt
open Go.RowKit Go.Extern.Stop Go.Stop Go.Extern
set_option linter.unusedSimpArgs false

/-- An operation without its guard. -/
def bare (o : Oper) : Oper := { dst := o.dst, op := o.op, type := o.type, pos := o.pos, after := o.after, guard := none }
theorem bare_exec (e : Operand → Value) (o : Oper) : execOp e (bare o) = execOp e o := by
  unfold execOp bare
  rfl
theorem bare_wp {P : Program} {o : Oper} {a : Act} {w : World} {K : Act → World → Prop} {Q : Exit → Act → World → Prop} (h : (bare o).wp P a w K Q) : o.wp P a w K Q := by
  unfold Oper.wp at *
  rw [bare_exec] at h
  exact h
theorem sc_mustIf {P : Program} {ops : Array Oper} {S : World → Prop} {N : Act → World → Prop} {o : Oper} {r : List (Bool × Oper)} {a : Act} {w : World} (hw : Region.wanted o (yielded ops a.tmps) = true) (h : wpList P ops (OnlyN fun a' w' => S w' ∧ wpScript P ops S N r a' w') [bare o] a w) : wpScript P ops S N ((false, o) :: r) a w := by
  refine sc_must ?_
  unfold wpList at *
  rw [if_pos hw]
  rw [if_pos (show Region.wanted (bare o) (yielded ops a.tmps) = true from rfl)] at h
  rcases h with h | ⟨_, _, _, q⟩
  · exact .inl (bare_wp h)
  · exact (q : False).elim

theorem read_val {w : World} {p : Nat} {key : ByteArray} {mode : Int} {r : Rep} {f : Bool} (h : ReadAt w p key mode r f) : ∃ v, w.cell? ⟨p, 22, none⟩ = some v ∧ ValIn w v r.val := by
  obtain ⟨v, g1, g2, _⟩ := h
  exact ⟨v, (msg_fields (readIs g1).msg).1.f20, g2⟩
theorem low_zero {w : World} {p lo : Nat} {key : ByteArray} {mode : Int} {f : Bool} (h : ReadAt w p key mode zeroRep f) : ∀ v, w.cell? ⟨p, 22, none⟩ = some v → LoV lo v := fun v hv => by
  obtain ⟨v', h1, h2⟩ := read_val h
  rw [hv] at h1
  have e : v = v' := Option.some.inj h1
  have e2 : v' = .slice none 0 0 := h2
  rw [e, e2]
  exact fun q n c h => by simp at h
theorem low_later {w w' : World} {p lo : Nat} {key : ByteArray} {mode : Int} {r : Rep} {f : Bool} (h : ReadAt w p key mode r f) (hl : ∀ v, w.cell? ⟨p, 22, none⟩ = some v → LoV lo v) (hb : Below w.heap.size w w') : ∀ v, w'.cell? ⟨p, 22, none⟩ = some v → LoV lo v := fun v hv => by
  obtain ⟨v', h1, _⟩ := read_val h
  have h3 := cell_later hb h1
  rw [hv] at h3
  rw [Option.some.inj h3]
  exact hl v' h1

theorem mode_bool {m : Int} {x y : Bool} (h : y = true ↔ m = 0 ∧ x = true) : y = (decide (m = 0) && x) := by
  by_cases hm : m = 0 <;> cases x <;> cases y <;> simp_all
theorem bool_of_iff {a b : Bool} {p : Prop} (h1 : a = true ↔ p) (h2 : b = true ↔ p) : a = b := by
  cases a <;> cases b <;> simp_all

set_option maxHeartbeats 16000000 in
theorem law6_any (F : Interp) (key : ByteArray) (mode : Int) (a : Option Addr) (b off n c : Nat) (R : Nat → Rep) (w : World) (hF : F.answers w.tape) (hkey : key.size ≤ 9223372036854775807) (hn : n ≤ 9223372036854775807)
    (h : RowIn w a b off n R) (hok : ∀ j, j < n → RepOk (R j)) : Calls Tryf.prog 6 #[.string key, .int .u8 mode, .slice a n c] w (Law w) := by
  have H : Hid _ := h
  have HO : Hid _ := hok
  have HF : Hid (F.answers w.tape) := hF
  clear h hok hF
  go_enter Tryf.func6, Tryf.ntmps6
  go_wp2_with fail
  go_at_call 28
  refine (bytes28 key mode a b off n c R w hkey hn H.out HO.out).mono ?_
  rintro e w0 ⟨hw0, r, rfl, hr⟩
  rw [hw0]
  clear hw0 w0
  have HR : Hid _ := hr
  clear hr
  cases r with
  | false =>
    go_wp2_with fail
    go_ret
    exact ⟨rfl, Below.refl _ _⟩
  | true =>
  have HS : Hid (Small n R) := HR.out rfl
  clear HR
  go_wp2_with fail
  go_at_call 9
  refine (strBytes_any key 0 w hkey (by omega)).mono ?_
  rintro e w0 ⟨⟨n0, rfl, hn0⟩, hw0⟩
  rw [hw0]
  clear hw0 w0
  go_wp2_with fail
  go_at_call 8
  refine (repsUse_any a b off n c R n0 w hn hn0 H.out HO.out).mono ?_
  rintro e w1 ⟨⟨n1, rfl, hn1⟩, hb1⟩
  by_cases h0 : n1 < 0
  · go_wp2_with fail
    go_ret
    exact ⟨rfl, hb1⟩
  by_cases hn0 : n = 0
  · subst hn0
    go_wp2_with fail
    go_ret
    exact ⟨rfl, hb1⟩
  have hn3 : (n : Int) ≠ 0 := by omega
  have hn4 : 0 < n := by omega
  have hn5 := HS.out.1
  go_wp2_with fail
  go_at_call 10
  refine (copies_any a b off n c R w1 HS.out (Below.row H.out hb1)).mono ?_
  rintro e w2 ⟨a2, b2, c2, rfl, hrow, hb2⟩
  have HRow : Hid (RowIn w2 a2 b2 0 n R) := hrow
  have HB2 : Hid (Below w.heap.size w w2) := hb1.trans (hb2.mono hb1.size)
  clear hrow hb1 hb2
  by_cases hk : KeyGood key
  · have HK : Hid (KeyGood key) := hk
    clear hk
    go_wp2_with fail
    go_at_call 11
    refine (new_ok key 0 w2 HK.out).mono ?_
    rintro e w3 ⟨rfl, hw3⟩
    obtain ⟨hrd, hb3, hs3⟩ := new_read key 0 w2
    rw [← hw3] at hrd hb3 hs3
    clear hw3
    have HF3 : Hid _ := hrd
    have HS3 : Hid (w3.heap.size = w2.heap.size + 1) := hs3
    clear hrd hs3
    go_wp2_with fail
    go_at_call 11
    refine (new_ok key mode w3 HK.out).mono ?_
    rintro e w4 ⟨rfl, hw4⟩
    obtain ⟨hrd, hb4, hs4⟩ := new_read key mode w3
    rw [← hw4] at hrd hb4 hs4
    clear hw4
    have HM4 : Hid _ := hrd
    have HF4 : Hid (ReadAt w4 w2.heap.size key 0 zeroRep false) := Below.read HF3.out hb4
    clear hrd HF3
    have hb24 : Below w2.heap.size w2 w4 := hb3.trans (hb4.mono hb3.size)
    have hs3 := HS3.out
    have hp1 : w2.heap.size < w4.heap.size := by omega
    have hp2 : w3.heap.size < w4.heap.size := by omega
    have hp12 : w2.heap.size < w3.heap.size := by omega
    clear hs3 hs4 HS3
    go_wp2_with fail
    go_at_call 12
    refine (keyOK_any key w4 hkey).mono ?_
    rintro e w5 ⟨⟨r, rfl, hr⟩, hw5⟩
    rw [hw5]
    clear hw5 w5
    obtain rfl : r = true := hr.2 HK.out
    clear hr
    go_wp2_with fail
    go_at_call 15
    refine (msgs_any a2 b2 0 n c2 R w4 HS.out (Below.row HRow.out hb24)).mono ?_
    rintro e w6 ⟨a6, b6, c6, rfl, hm6, hb6⟩
    have HMs : Hid _ := hm6
    have HF6 : Hid (ReadAt w6 w2.heap.size key 0 zeroRep false) := Below.read HF4.out hb6
    have HM6 : Hid (ReadAt w6 w3.heap.size key mode zeroRep false) := Below.read HM4.out hb6
    clear hm6 HF4 HM4
    go_wp2_with fail
    go_at_call 14
    refine (comp_firstLo w2.heap.size key 0 zeroRep w4.heap.size a6 b6 0 n c6 R w6 HF6.out HMs.out hp1 (msgs_apart HMs.out hn4 HF6.out) hn4 hn5).mono ?_
    rintro e w7 ⟨⟨⟨zF, rfl, hzF⟩, hrd7, hbut7⟩, hlow7⟩
    have HF7 : Hid _ := hrd7
    have HL7 : Hid _ := hlow7
    have HZF : Hid _ := hzF
    have hp6 : w2.heap.size < w6.heap.size := by have := hb6.size; omega
    have hb27 : Below w2.heap.size w2 w7 := (hb24.trans (hb6.mono hb24.size)).trans (hbut7.below _ (Nat.le_refl _) hp6)
    have hs67 := hbut7.size
    have HM7 : Hid (ReadAt w7 w3.heap.size key mode zeroRep false) := by
      exact butAt_read (lo := w4.heap.size) HM6.out hbut7 (by omega) (low_zero HM6.out) hp1
    clear hrd7 hlow7 hzF HMs HF6 HM6 hbut7
    go_wp2_with fail
    go_at_call 15
    refine (msgs_any a2 b2 0 n c2 R w7 HS.out (Below.row HRow.out hb27)).mono ?_
    rintro e w8 ⟨a8, b8, c8, rfl, hm8, hb8⟩
    have HMs : Hid _ := hm8
    have HF8 : Hid (ReadAt w8 w2.heap.size key 0 (R (hi R (n - 1))) true) := Below.read HF7.out hb8
    have HL8 : Hid (∀ v, w8.cell? ⟨w2.heap.size, 22, none⟩ = some v → LoV w4.heap.size v) := low_later HF7.out HL7.out hb8
    have HM8 : Hid (ReadAt w8 w3.heap.size key mode zeroRep false) := Below.read HM7.out hb8
    clear hm8 HF7 HM7 HL7
    go_wp2_with fail
    go_at_call 14
    refine (comp_firstLo w3.heap.size key mode zeroRep w7.heap.size a8 b8 0 n c8 R w8 HM8.out HMs.out (by have := hb6.size; omega) (msgs_apart HMs.out hn4 HM8.out) hn4 hn5).mono ?_
    rintro e w9 ⟨⟨⟨zM, rfl, hzM⟩, hrd9, hbut9⟩, _⟩
    have HM9 : Hid _ := hrd9
    have HZM : Hid _ := hzM
    have HF9 : Hid (ReadAt w9 w2.heap.size key 0 (R (hi R (n - 1))) true) := butAt_read HF8.out hbut9 (by omega) HL8.out hp2
    have hp8 : w3.heap.size < w8.heap.size := by have := hb6.size; have := hb8.size; omega
    have hb29 : Below w2.heap.size w2 w9 := by
      have h28 : Below w2.heap.size w2 w8 := hb27.trans (hb8.mono hb27.size)
      exact h28.trans (hbut9.below _ (by omega) hp8)
    clear hrd9 hzM HMs HF8 HM8 HL8 hbut9 hb8 hb6 hb27 hb24 hb3 hb4
    go_wp2_with fail
    go_at_call 26
    refine (oneTag_any a2 b2 0 n c2 R w9 (Below.row HRow.out hb29) hn4 hn5).mono ?_
    rintro e w10 ⟨z1, rfl, hz1, hb10⟩
    have hJn : hi R (n - 1) < n := by have := hi_le R (n - 1); omega
    have EF : Hid (zF = z1) := bool_of_iff HZF.out (by rw [hz1, ← allEq_one R n _ hJn]; simp)
    have EM : Hid (zM = true ↔ mode = 0 ∧ z1 = true) := by rw [hz1, ← allEq_one R n _ hJn]; exact HZM.out
    clear hz1 HZF HZM
    have hb210 : Below w2.heap.size w2 w10 := hb29.trans (hb10.mono hb29.size)
    have HF10 : Hid (ReadAt w10 w2.heap.size key 0 (R (hi R (n - 1))) true) := Below.read HF9.out hb10
    have HM10 : Hid (ReadAt w10 w3.heap.size key mode (R (hi R (n - 1))) true) := Below.read HM9.out hb10
    clear HF9 HM9 hb10 hb29
    go_wp2_with fail
    go_at_call 16
    refine (hiIdx_any a2 b2 0 n c2 R w10 (Below.row HRow.out hb210) hn4 hn5).mono ?_
    rintro e w14 ⟨rfl, hb14⟩
    obtain ⟨J, hJ⟩ : ∃ J, J = hi R (n - 1) := ⟨_, rfl⟩
    rw [← hJ] at hJn HF10 HM10 ⊢
    have HVL : Hid (((R J).val.getD []).length ≤ 1048576) := HS.out.2 _ hJn
    clear hJ
    have hJ0 : (0 : Int) ≤ (J : Int) := by omega
    have hJ2 : (J : Int) < (n : Int) := by omega
    obtain rfl := HRow.out.at_ hn4
    have hb214 : Below w2.heap.size w2 w14 := hb210.trans (hb14.mono hb210.size)
    obtain ⟨v14, hr14, hv14⟩ := Below.rep (HRow.out.rep J hJn) hb214
    have HR14 : Hid (w14.rangeAt b2 (J * 59) (repCells (R J) v14)) := by rw [Nat.zero_add] at hr14; exact hr14
    have HV14 : Hid (ValIn w14 v14 (R J).val) := hv14
    have HF14 : Hid (ReadAt w14 w2.heap.size key 0 (R J) true) := Below.read HF10.out hb14
    have HM14 : Hid (ReadAt w14 w3.heap.size key mode (R J) true) := Below.read HM10.out hb14
    clear hr14 hv14 HF10 HM10 hb14 hb210
    go_upto_region 18 with (first | refine wpList_get49 rfl _ rfl _ _ (R J) v14 rfl HR14.out ?_ | (refine wpList_new 16 rfl rfl 49 59 rfl zero49 ?_; intro W15 N15) | (refine wpList_put49 rfl _ _ rfl _ _ (R J) v14 rfl rfl (valIn_one HV14.out) N15.out.th ?_; have b15 := boxNew N15.out (repCells_len (R J) v14); generalize W15.setCells w14.heap.size 0 (repCells (R J) v14) = w15 at b15 ⊢; clear N15 W15))
    have HBE : Hid (Below w.heap.size w w15) := by
      have hb215 : Below w2.heap.size w2 w15 := hb214.trans (b15.bel.mono hb214.size)
      exact HB2.out.trans (hb215.mono HB2.out.size)
    have EX : ∀ w', Below w15.heap.size w15 w' → w'.rangeAt w14.heap.size 0 (repCells (R J) v14) := fun w' hw => Below.range b15.range hw
    have HXV : Hid (ValIn w15 v14 (R J).val) := Below.val HV14.out b15.bel
    have HF15 : Hid (ReadAt w15 w2.heap.size key 0 (R J) true) := Below.read HF14.out b15.bel
    have HM15 : Hid (ReadAt w15 w3.heap.size key mode (R J) true) := Below.read HM14.out b15.bel
    have i1 : (Tryf.prog.info? 49).map (·.size) = some (repCells (R J) v14).length := by rw [repCells_len]; exact info49
    clear b15 HV14 HR14 HF14 HM14 hb214
    obtain rfl := EF.out
    have ez : zM = (decide (mode = 0) && zF) := mode_bool EM.out
    clear EF EM
    by_cases hm : mode = 0 <;> cases zF
    all_goals
      simp only [hm, decide_true, decide_false, Bool.true_and, Bool.false_and, Bool.and_false] at ez
      subst ez
      try (have hm1 : (mode == 0) = false := beq_eq_false_iff_ne.2 hm)
      try (have hm2 : (mode == 0) = true := beq_iff_eq.2 hm)
      refine wp_region_script (fun w' => Below w15.heap.size w15 w') [(true, 0), (true, 1), (true, 2), (true, 3), (true, 4), (true, 5), (true, 6), (true, 7), (true, 8), (true, 9), (true, 10), (true, 11), (true, 12), (true, 13), (true, 14), (true, 15), (true, 16), (true, 17), (true, 18), (true, 19), (true, 20), (true, 21), (true, 23), (true, 24), (false, 22), (false, 25), (true, 26), (true, 27), (true, 28), (true, 30), (true, 31), (false, 29), (false, 32), (true, 33), (false, 34)] [2, 6, 11, 15, 20, 27] (by kernel_rfl) (by kernel_rfl) (Below.refl _ _).drew ?_
      intro OPS hO
      simp only [List.map_cons, List.map_nil, List.getElem?_cons_succ, List.getElem?_cons_zero, List.cons.injEq, and_true] at hO
      obtain ⟨h2, h6, h11, h15, h20, h27⟩ := hO
      have G2 : Hid _ := h2
      have G6 : Hid _ := h6
      have G11 : Hid _ := h11
      have G15 : Hid _ := h15
      have G20 : Hid _ := h20
      have G27 : Hid _ := h27
      clear h2 h6 h11 h15 h20 h27
      simp only [scOps, List.getElem?_cons_succ, List.getElem?_cons_zero, Act.put, List.setIfInBounds_toArray, List.set_cons_zero, List.set_cons_succ]
      repeat ((first | apply sc_take rfl | apply sc_takeIf ((wanted_of rfl G2.out rfl rfl).trans rfl) | apply sc_takeIf ((wanted_of rfl G6.out rfl rfl).trans rfl) | apply sc_takeIf ((wanted_of rfl G11.out rfl rfl).trans rfl) | apply sc_takeIf ((wanted_of rfl G15.out rfl rfl).trans rfl) | apply sc_skip ((wanted_of rfl G15.out rfl rfl).trans rfl) | apply sc_takeIf ((wanted_of rfl G20.out rfl rfl).trans rfl)); try (case h => (intro wx hx; first | exact exec_load_mid 49 _ rfl _ _ rfl _ _ (EX wx hx) Tryf.underlying49 rfl i1 | (go_simp; try with_reducible rfl))); try simp only [Act.put, List.setIfInBounds_toArray, List.set_cons_zero, List.set_cons_succ])
      refine sc_mustIf ((wanted_of rfl G20.out rfl rfl).trans rfl) ?_
      dsimp only [bare]
      go_wp2_with (go_at_call 13; refine (req_store w2.heap.size key 0 (R J) w15.drew (Below.read HF15.out (Below.refl _ _).drew)).mono ?_)
      rintro e w16 ⟨v16, rfl, hv16, hb16⟩
      have HV16 : Hid (ValIn w16 v16 (R J).val) := hv16
      have hbb : Below w15.heap.size w15 w16 := (Below.refl _ _).drew.trans hb16
      clear hv16
      go_wp2_with fail
      refine onlyN_mk ⟨hbb, ?_⟩
      refine sc_mustIf ((wanted_of rfl G20.out rfl rfl).trans rfl) ?_
      dsimp only [bare]
      go_wp2_with (go_at_call 18; refine (isStore_any key (R J) v16 v14 w16 HV16.out (Below.val HXV.out hbb) HVL.out).mono ?_)
      rintro e w17 ⟨rfl, hb17⟩
      have hbc : Below w15.heap.size w15 w17 := hbb.trans (hb17.mono hbb.size)
      clear HV16 hb16 hb17 hbb
      go_wp2_with fail
      refine onlyN_mk ⟨hbc, ?_⟩
      repeat ((first | apply sc_take rfl | apply sc_takeIf ((wanted_of rfl G27.out rfl rfl).trans rfl)); try (case h => (intro wx hx; first | exact exec_load_mid 49 _ rfl _ _ rfl _ _ (EX wx hx) Tryf.underlying49 rfl i1 | (go_simp; try with_reducible rfl))); try simp only [Act.put, List.setIfInBounds_toArray, List.set_cons_zero, List.set_cons_succ])
      refine sc_mustIf ((wanted_of rfl G27.out rfl rfl).trans rfl) ?_
      dsimp only [bare]
      go_wp2_with (go_at_call 13; refine (req_store w3.heap.size key mode (R J) w17 (Below.read HM15.out hbc)).mono ?_)
      rintro e w18 ⟨v18, rfl, hv18, hb18⟩
      have HV18 : Hid (ValIn w18 v18 (R J).val) := hv18
      have hbd : Below w15.heap.size w15 w18 := hbc.trans (hb18.mono hbc.size)
      clear hv18
      go_wp2_with fail
      refine onlyN_mk ⟨hbd, ?_⟩
      refine sc_mustIf ((wanted_of rfl G27.out rfl rfl).trans rfl) ?_
      dsimp only [bare]
      go_wp2_with (go_at_call 18; refine (isStore_any key (R J) v18 v14 w18 HV18.out (Below.val HXV.out hbd) HVL.out).mono ?_)
      rintro e w19 ⟨rfl, hb19⟩
      have hbe : Below w15.heap.size w15 w19 := hbd.trans (hb19.mono hbd.size)
      clear HV18 hb18 hb19 hbd hbc EX i1
      go_wp2_with fail
      refine onlyN_mk ⟨hbe, ?_⟩
      apply sc_take rfl
      case h => (intro wx hx; go_simp; try with_reducible rfl)
      try simp only [Act.put, List.setIfInBounds_toArray, List.set_cons_zero, List.set_cons_succ]
      refine sc_must ?_
      go_wp2_with fail
      refine onlyN_mk ⟨hbe, sc_nil ?_⟩
      go_wp2_with fail
      go_ret
      exact ⟨rfl, HBE.out.trans (hbe.mono HBE.out.size)⟩
  · have HK : Hid (¬ KeyGood key) := hk
    clear hk
    go_wp2_with fail
    go_at_call 11
    refine (new_bad F key 0 w2 (by rw [HB2.out.tape]; exact HF.out) HK.out hkey).mono ?_
    rintro e w3 ⟨q, rfl, hb3⟩
    have HB3 : Hid (Below w.heap.size w w3) := HB2.out.trans (hb3.mono HB2.out.size)
    go_wp2_with fail
    go_at_call 11
    refine (new_bad F key mode w3 (by rw [HB3.out.tape]; exact HF.out) HK.out hkey).mono ?_
    rintro e w4 ⟨q2, rfl, hb4⟩
    have HB4 : Hid (Below w.heap.size w w4) := HB3.out.trans (hb4.mono HB3.out.size)
    go_wp2_with fail
    go_at_call 12
    refine (keyOK_any key w4 hkey).mono ?_
    rintro e w5 ⟨⟨r, rfl, hr⟩, hw5⟩
    rw [hw5]
    clear hw5 w5
    cases r with
    | true => exact absurd (hr.1 rfl) HK.out
    | false =>
      clear hr
      go_wp2_with fail
      go_ret
      exact ⟨rfl, HB4.out⟩
end Go.Proofs.Qxb6615539aFmt
