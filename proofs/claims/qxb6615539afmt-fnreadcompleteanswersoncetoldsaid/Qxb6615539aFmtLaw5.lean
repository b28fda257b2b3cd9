import Derived.Test.Qxb6615539aFmtLaw6
import Derived.Test.Qxb6615539aFmtBytes24
import Derived.Test.Qxb6615539aFmtMsgIs
import Derived.Test.Qxb6615539aFmtFields
namespace Go.Proofs.Qxb6615539aFmt
open Go.RowKit Go.Extern.Stop Go.Stop Go.Extern
set_option linter.unusedSimpArgs false

set_option maxRecDepth 4000 in
set_option maxHeartbeats 32000000 in
theorem law5_any (F : Interp) (key : ByteArray) (mode : Int) (a : Option Addr) (b off n c : Nat) (R : Nat → Rep) (al : Option Addr) (bl offl m cl : Nat) (L : Nat → Rep) (w : World) (hF : F.answers w.tape) (hkey : key.size ≤ 9223372036854775807) (hn : n ≤ 9223372036854775807) (hm : m ≤ 9223372036854775807)
    (h : RowIn w a b off n R) (hok : ∀ j, j < n → RepOk (R j)) (hl : RowIn w al bl offl m L) (hokl : ∀ j, j < m → RepOk (L j)) : Calls Tryf.prog 5 #[.string key, .int .u8 mode, .slice a n c, .slice al m cl] w (Law w) := by
  have H : Hid _ := h
  have HO : Hid _ := hok
  have HL : Hid _ := hl
  have HOL : Hid _ := hokl
  have HF : Hid (F.answers w.tape) := hF
  clear h hok hl hokl hF
  go_enter Tryf.func5, Tryf.ntmps5
  go_wp2_with fail
  go_at_call 24
  refine (bytes24 key mode a b off n c R al bl offl m cl L w hkey hn hm H.out HO.out HL.out HOL.out).mono ?_
  rintro e w0 ⟨hw0, r, rfl, hr⟩
  rw [hw0]
  clear hw0 w0
  have HR : Hid _ := hr
  clear hr
  cases r with
  | false =>
    go_wp2_with fail
    go_ret
    exact ⟨rfl, Below.refl _ _⟩
  | true =>
  have HS : Hid (Small n R) := (HR.out rfl).1
  have HSL : Hid (Small m L) := (HR.out rfl).2
  clear HR
  go_wp2_with fail
  go_at_call 9
  refine (strBytes_any key 0 w hkey (by omega)).mono ?_
  rintro e w0 ⟨⟨n0, rfl, hn0⟩, hw0⟩
  rw [hw0]
  clear hw0 w0
  go_wp2_with fail
  go_at_call 8
  refine (repsUse_any a b off n c R n0 w hn hn0 H.out HO.out).mono ?_
  rintro e w0 ⟨⟨m0, rfl, hm0⟩, hb0⟩
  go_wp2_with fail
  go_at_call 8
  refine (repsUse_any al bl offl m cl L m0 w0 hm hm0 (Below.row HL.out hb0) HOL.out).mono ?_
  rintro e w1 ⟨⟨n1, rfl, hn1⟩, hb01⟩
  have hb1 : Below w.heap.size w w1 := hb0.trans (hb01.mono hb0.size)
  clear hb0 hb01 hn0 hm0 hn1
  by_cases h0 : n1 < 0
  · go_wp2_with fail
    go_ret
    exact ⟨rfl, hb1⟩
  by_cases hn0 : n = 0
  · subst hn0
    go_wp2_with fail
    go_ret
    exact ⟨rfl, hb1⟩
  have hn3 : (n : Int) ≠ 0 := by omega
  have hn4 : 0 < n := by omega
  have hn5 := HS.out.1
  go_wp2_with fail
  go_at_call 10
  refine (copies_any a b off n c R w1 HS.out (Below.row H.out hb1)).mono ?_
  rintro e w2 ⟨a2, b2, c2, rfl, hrow, hb12⟩
  have HRow2 : Hid (RowIn w2 a2 b2 0 n R) := hrow
  have hb2 : Below w.heap.size w w2 := hb1.trans (hb12.mono hb1.size)
  clear hrow hb1 hb12
  go_wp2_with fail
  go_at_call 10
  refine (copies_any al bl offl m cl L w2 HSL.out (Below.row HL.out hb2)).mono ?_
  rintro e w3 ⟨a3, b3, c3, rfl, hrow, hb23⟩
  have HLat : Hid (RowIn w3 a3 b3 0 m L) := hrow
  have HRow : Hid (RowIn w3 a2 b2 0 n R) := Below.row HRow2.out hb23
  have HB3 : Hid (Below w.heap.size w w3) := hb2.trans (hb23.mono hb2.size)
  clear hrow hb2 hb23 HRow2
  by_cases hk : KeyGood key
  · have HK : Hid (KeyGood key) := hk
    clear hk
    go_wp2_with fail
    go_at_call 11
    refine (new_ok key mode w3 HK.out).mono ?_
    rintro e w4 ⟨rfl, hw4⟩
    obtain ⟨hrd, hb34, hs4⟩ := new_read key mode w3
    rw [← hw4] at hrd hb34 hs4
    have hp4 : w3.heap.size < w4.heap.size := by omega
    clear hw4 hs4
    have HRd4 : Hid _ := hrd
    clear hrd
    go_wp2_with fail
    go_at_call 12
    refine (keyOK_any key w4 hkey).mono ?_
    rintro e w5 ⟨⟨r, rfl, hr⟩, hw5⟩
    rw [hw5]
    clear hw5 w5
    obtain rfl : r = true := hr.2 HK.out
    clear hr
    go_wp2_with fail
    go_at_call 15
    refine (msgs_any a2 b2 0 n c2 R w4 HS.out (Below.row HRow.out hb34)).mono ?_
    rintro e w5 ⟨a5, b5, c5, rfl, hm5, hb5⟩
    have HMs : Hid _ := hm5
    have HRd5 : Hid (ReadAt w5 w3.heap.size key mode zeroRep false) := Below.read HRd4.out hb5
    clear hm5 HRd4
    go_wp2_with fail
    go_at_call 14
    refine (comp_first w3.heap.size key mode zeroRep w4.heap.size a5 b5 0 n c5 R w5 HRd5.out HMs.out hp4 (msgs_apart HMs.out hn4 HRd5.out) hn4 hn5).mono ?_
    rintro e w6 ⟨⟨zF, rfl, hzF⟩, hrd6, hbut⟩
    have HRd6 : Hid _ := hrd6
    have HZF : Hid _ := hzF
    have hp5 : w3.heap.size < w5.heap.size := by have := hb5.size; omega
    have hb36 : Below w3.heap.size w3 w6 := (hb34.trans (hb5.mono hb34.size)).trans (hbut.below _ (Nat.le_refl _) hp5)
    clear hrd6 hzF HMs HRd5 hbut hb5 hb34 hp4 hp5
    obtain ⟨J, hJ⟩ : ∃ J, J = hi R (n - 1) := ⟨_, rfl⟩
    have hJn : J < n := by have := hi_le R (n - 1); omega
    have HVL : Hid (((R J).val.getD []).length ≤ 1048576) := HS.out.2 _ hJn
    rw [← hJ] at HRd6 HZF
    have HJ : Hid (J = hi R (n - 1)) := hJ
    clear hJ
    have hJ0 : (0 : Int) ≤ (J : Int) := by omega
    have hJ2 : (J : Int) < (n : Int) := by omega
    go_wp2_with fail
    go_at_call 25
    refine (fields_any w3.heap.size key mode (R J) true w6 HRd6.out).mono ?_
    rintro e w7 ⟨v7, rfl, hv7, hb7⟩
    have HV7 : Hid (ValIn w7 v7 (R J).val) := hv7
    clear hv7
    go_wp2_with (first | (refine wpList_new 15 rfl rfl 43 60 rfl zero43 ?_; intro W8 N8) | (refine wpList_put43 rfl _ _ rfl _ _ (R J) v7 rfl rfl (valIn_one HV7.out) N8.out.th ?_; have b8 := boxNew N8.out (msgCells_len (R J) v7); generalize W8.setCells w7.heap.size 0 (msgCells (R J) v7) = w8 at b8 ⊢; clear N8 W8))
    have hb68 : Below w6.heap.size w6 w8 := hb7.trans (b8.bel.mono hb7.size)
    have HM8 : Hid (w8.rangeAt w7.heap.size 0 (msgCells (R J) v7)) := b8.range
    have HV8 : Hid (ValIn w8 v7 (R J).val) := Below.val HV7.out b8.bel
    have HRd8 : Hid (ReadAt w8 w3.heap.size key mode (R J) true) := Below.read HRd6.out hb68
    have hb38 : Below w3.heap.size w3 w8 := hb36.trans (hb68.mono hb36.size)
    clear b8 HV7 HRd6 hb7 hb68 hb36
    go_at_call 15
    refine (msgs_any a3 b3 0 m c3 L w8 HSL.out (Below.row HLat.out hb38)).mono ?_
    rintro e w9 ⟨a9, b9, c9, rfl, _, hb89⟩
    have HRd9 : Hid (ReadAt w9 w3.heap.size key mode (R J) true) := Below.read HRd8.out hb89
    go_wp2_with fail
    go_at_call 14
    refine (comp_again w3.heap.size key mode (R J) _ w9 HRd9.out).mono ?_
    rintro e w10 ⟨rfl, hb910⟩
    have hb810 : Below w8.heap.size w8 w10 := hb89.trans (hb910.mono hb89.size)
    have HRd10 : Hid (ReadAt w10 w3.heap.size key mode (R J) true) := Below.read HRd9.out hb910
    clear HRd8 HRd9 hb89 hb910
    go_wp2_with fail
    go_at_call 25
    refine (fields_any w3.heap.size key mode (R J) true w10 HRd10.out).mono ?_
    rintro e w11 ⟨v11, rfl, hv11, hb11⟩
    have HV11 : Hid (ValIn w11 v11 (R J).val) := hv11
    clear hv11
    go_wp2_with (first | (refine wpList_new 21 rfl rfl 43 60 rfl zero43 ?_; intro W12 N12) | (refine wpList_put43 rfl _ _ rfl _ _ (R J) v11 rfl rfl (valIn_one HV11.out) N12.out.th ?_; have b12 := boxNew N12.out (msgCells_len (R J) v11); generalize W12.setCells w11.heap.size 0 (msgCells (R J) v11) = w12 at b12 ⊢; clear N12 W12))
    have hb1012 : Below w10.heap.size w10 w12 := hb11.trans (b12.bel.mono hb11.size)
    have hb812 : Below w8.heap.size w8 w12 := hb810.trans (hb1012.mono hb810.size)
    have HM12 : Hid (w12.rangeAt w11.heap.size 0 (msgCells (R J) v11)) := b12.range
    have HV12 : Hid (ValIn w12 v11 (R J).val) := Below.val HV11.out b12.bel
    have HRd12 : Hid (ReadAt w12 w3.heap.size key mode (R J) true) := Below.read HRd10.out hb1012
    have hb312 : Below w3.heap.size w3 w12 := hb38.trans (hb812.mono hb38.size)
    clear b12 HV11 HRd10 hb11 hb1012 hb810
    go_at_call 16
    refine (hiIdx_any a2 b2 0 n c2 R w12 (Below.row HRow.out hb312) hn4 hn5).mono ?_
    rintro e w14 ⟨rfl, hb14⟩
    rw [← HJ.out]
    obtain rfl := HRow.out.at_ hn4
    have hb314 : Below w3.heap.size w3 w14 := hb312.trans (hb14.mono hb312.size)
    obtain ⟨v14, hr14, hv14⟩ := Below.rep (HRow.out.rep J hJn) hb314
    have HR14 : Hid (w14.rangeAt b2 (J * 59) (repCells (R J) v14)) := by rw [Nat.zero_add] at hr14; exact hr14
    have HV14 : Hid (ValIn w14 v14 (R J).val) := hv14
    clear hr14 hv14
    go_upto_region 19 with (first | refine wpList_get49 rfl _ rfl _ _ (R J) v14 rfl HR14.out ?_ | (refine wpList_new 23 rfl rfl 49 59 rfl zero49 ?_; intro W15 N15) | (refine wpList_put49 rfl _ _ rfl _ _ (R J) v14 rfl rfl (valIn_one HV14.out) N15.out.th ?_; have b15 := boxNew N15.out (repCells_len (R J) v14); generalize W15.setCells w14.heap.size 0 (repCells (R J) v14) = w15 at b15 ⊢; clear N15 W15))
    have hb1215 : Below w12.heap.size w12 w15 := hb14.trans (b15.bel.mono hb14.size)
    have hb815 : Below w8.heap.size w8 w15 := hb812.trans (hb1215.mono hb812.size)
    have hb315 : Below w3.heap.size w3 w15 := hb312.trans (hb1215.mono hb312.size)
    have K8 : Hid (w15.rangeAt w7.heap.size 0 (msgCells (R J) v7)) := Below.range HM8.out hb815
    have K8v : Hid (ValIn w15 v7 (R J).val) := Below.val HV8.out hb815
    have K12 : Hid (w15.rangeAt w11.heap.size 0 (msgCells (R J) v11)) := Below.range HM12.out hb1215
    have K12v : Hid (ValIn w15 v11 (R J).val) := Below.val HV12.out hb1215
    have KX : Hid (w15.rangeAt w14.heap.size 0 (repCells (R J) v14)) := b15.range
    have KXv : Hid (ValIn w15 v14 (R J).val) := Below.val HV14.out b15.bel
    have KR : Hid (ReadAt w15 w3.heap.size key mode (R J) true) := Below.read HRd12.out hb1215
    have i1 : (Tryf.prog.info? 49).map (·.size) = some (repCells (R J) v14).length := by rw [repCells_len]; exact info49
    have i2 : (Tryf.prog.info? 43).map (·.size) = some (msgCells (R J) v7).length := by rw [msgCells_len]; exact info43
    have i3 : (Tryf.prog.info? 43).map (·.size) = some (msgCells (R J) v11).length := by rw [msgCells_len]; exact info43
    clear b15 hb1215 hb815 hb812 hb312 hb14 hb314 hb38 HM8 HV8 HM12 HV12 HR14 HV14 HRd12
    have hzz : (zF == zF) = true := by simp
    have hmm : (mode == mode) = true := by simp
    by_cases hm0 : mode = 0
    · have hm1 : (mode == 0) = true := beq_iff_eq.2 hm0
      go_upto_region 20 with (go_at_call 26; refine (oneTag_any (some ⟨b2, 0, none⟩) b2 0 n c2 R w15 (Below.row HRow.out hb315) hn4 hn5).mono ?_)
      rintro e w16 ⟨z1, rfl, hz1, hb16⟩
      have EF : Hid (zF = z1) := bool_of_iff HZF.out (by rw [hz1, ← allEq_one R n _ hJn]; simp [hm0])
      obtain rfl := EF.out
      clear hz1 EF HZF
      go_upto_region 20 with fail
      obtain ⟨wS, hwS⟩ : ∃ wS, wS = w16 := ⟨_, rfl⟩
      rw [← hwS]
      rw [← hwS] at hb16
      clear hwS
      have L8 : Hid (wS.rangeAt w7.heap.size 0 (msgCells (R J) v7)) := Below.range K8.out hb16
      have L8v : Hid (ValIn wS v7 (R J).val) := Below.val K8v.out hb16
      have L12 : Hid (wS.rangeAt w11.heap.size 0 (msgCells (R J) v11)) := Below.range K12.out hb16
      have L12v : Hid (ValIn wS v11 (R J).val) := Below.val K12v.out hb16
      have LX : Hid (wS.rangeAt w14.heap.size 0 (repCells (R J) v14)) := Below.range KX.out hb16
      have LXv : Hid (ValIn wS v14 (R J).val) := Below.val KXv.out hb16
      have LR : Hid (ReadAt wS w3.heap.size key mode (R J) true) := Below.read KR.out hb16
      have HBE : Hid (Below w.heap.size w wS) := by
        have hb3S : Below w3.heap.size w3 wS := hb315.trans (hb16.mono hb315.size)
        exact HB3.out.trans (hb3S.mono HB3.out.size)
      clear K8 K8v K12 K12v KX KXv KR hb16 hb315
      have EX : ∀ w', Below wS.heap.size wS w' → w'.rangeAt w14.heap.size 0 (repCells (R J) v14) := fun w' hw => Below.range LX.out hw
      have EA : ∀ w', Below wS.heap.size wS w' → w'.rangeAt w7.heap.size 0 (msgCells (R J) v7) := fun w' hw => Below.range L8.out hw
      have EB : ∀ w', Below wS.heap.size wS w' → w'.rangeAt w11.heap.size 0 (msgCells (R J) v11) := fun w' hw => Below.range L12.out hw
      refine wp_region_script (fun w' => Below wS.heap.size wS w') [(true, 0), (true, 1), (true, 2), (true, 3), (true, 4), (true, 5), (true, 6), (true, 7), (true, 8), (true, 9), (true, 10), (true, 11), (true, 12), (true, 13), (true, 14), (true, 15), (true, 16), (true, 17), (true, 18), (true, 19), (true, 20), (true, 21), (true, 22), (false, 23), (true, 24), (true, 25), (true, 26), (true, 27), (true, 28), (true, 29), (true, 30), (true, 31), (true, 32), (true, 33), (true, 34), (true, 35), (true, 36), (true, 37), (true, 38), (true, 39), (true, 40), (true, 41), (true, 42), (true, 43), (true, 44), (true, 45), (true, 46), (true, 47), (false, 48), (true, 49), (true, 50), (true, 51), (true, 53), (true, 54), (false, 52), (false, 55), (true, 56), (false, 57)] [2, 7, 12, 17, 20, 25, 29, 32, 37, 42, 45, 50] (by kernel_rfl) (by kernel_rfl) (Below.refl _ _).drew ?_
      intro OPS hO
      simp only [List.map_cons, List.map_nil, List.getElem?_cons_succ, List.getElem?_cons_zero, List.cons.injEq, and_true] at hO
      obtain ⟨h2, h7, h12, h17, h20, h25, h29, h32, h37, h42, h45, h50⟩ := hO
      have G2 : Hid _ := h2
      have G7 : Hid _ := h7
      have G12 : Hid _ := h12
      have G17 : Hid _ := h17
      have G20 : Hid _ := h20
      have G25 : Hid _ := h25
      have G29 : Hid _ := h29
      have G32 : Hid _ := h32
      have G37 : Hid _ := h37
      have G42 : Hid _ := h42
      have G45 : Hid _ := h45
      have G50 : Hid _ := h50
      clear h2 h7 h12 h17 h20 h25 h29 h32 h37 h42 h45 h50
      simp only [scOps, List.getElem?_cons_succ, List.getElem?_cons_zero, Act.put, List.setIfInBounds_toArray, List.set_cons_zero, List.set_cons_succ]
      repeat ((first | apply sc_take rfl | apply sc_takeIf ((wanted_of rfl G2.out rfl rfl).trans rfl) | apply sc_takeIf ((wanted_of rfl G7.out rfl rfl).trans rfl) | apply sc_takeIf ((wanted_of rfl G12.out rfl rfl).trans rfl) | apply sc_takeIf ((wanted_of rfl G17.out rfl rfl).trans rfl) | apply sc_takeIf ((wanted_of rfl G20.out rfl rfl).trans rfl)); try (case h => (intro wx hx; first | exact exec_load_mid 49 _ rfl _ _ rfl _ _ (EX wx hx) Tryf.underlying49 rfl i1 | exact exec_load_mid 43 _ rfl _ _ rfl _ _ (EA wx hx) Tryf.underlying43 rfl i2 | (go_simp; try with_reducible rfl))); try simp only [Act.put, List.setIfInBounds_toArray, List.set_cons_zero, List.set_cons_succ])
      refine sc_mustIf ((wanted_of rfl G20.out rfl rfl).trans rfl) ?_
      dsimp only [bare]
      go_wp2_with (go_at_call 27; refine (msgIs_any (R J) v7 v14 wS.drew (Below.val L8v.out (Below.refl _ _).drew) (Below.val LXv.out (Below.refl _ _).drew) HVL.out).mono ?_)
      rintro e wA ⟨rfl, hbA0⟩
      have hbA : Below wS.heap.size wS wA := (Below.refl _ _).drew.trans hbA0
      clear hbA0
      go_wp2_with fail
      refine onlyN_mk ⟨hbA, ?_⟩
      repeat ((first | apply sc_take rfl | apply sc_takeIf ((wanted_of rfl G25.out rfl rfl).trans rfl) | apply sc_takeIf ((wanted_of rfl G29.out rfl rfl).trans rfl) | apply sc_takeIf ((wanted_of rfl G32.out rfl rfl).trans rfl) | apply sc_takeIf ((wanted_of rfl G37.out rfl rfl).trans rfl) | apply sc_takeIf ((wanted_of rfl G42.out rfl rfl).trans rfl) | apply sc_takeIf ((wanted_of rfl G45.out rfl rfl).trans rfl)); try (case h => (intro wx hx; first | exact exec_load_mid 49 _ rfl _ _ rfl _ _ (EX wx hx) Tryf.underlying49 rfl i1 | exact exec_load_mid 43 _ rfl _ _ rfl _ _ (EB wx hx) Tryf.underlying43 rfl i3 | (go_simp; try with_reducible rfl))); try simp only [Act.put, List.setIfInBounds_toArray, List.set_cons_zero, List.set_cons_succ])
      refine sc_mustIf ((wanted_of rfl G45.out rfl rfl).trans rfl) ?_
      dsimp only [bare]
      go_wp2_with (go_at_call 27; refine (msgIs_any (R J) v11 v14 wA (Below.val L12v.out hbA) (Below.val LXv.out hbA) HVL.out).mono ?_)
      rintro e wB ⟨rfl, hbB0⟩
      have hbB : Below wS.heap.size wS wB := hbA.trans (hbB0.mono hbA.size)
      clear hbB0 hbA
      go_wp2_with fail
      refine onlyN_mk ⟨hbB, ?_⟩
      repeat ((first | apply sc_take rfl | apply sc_takeIf ((wanted_of rfl G50.out rfl rfl).trans rfl)); try (case h => (intro wx hx; first | exact exec_load_mid 49 _ rfl _ _ rfl _ _ (EX wx hx) Tryf.underlying49 rfl i1 | (go_simp; try with_reducible rfl))); try simp only [Act.put, List.setIfInBounds_toArray, List.set_cons_zero, List.set_cons_succ])
      refine sc_mustIf ((wanted_of rfl G50.out rfl rfl).trans rfl) ?_
      dsimp only [bare]
      go_wp2_with (go_at_call 13; refine (req_store w3.heap.size key mode (R J) wB (Below.read LR.out hbB)).mono ?_)
      rintro e wC ⟨vC, rfl, hvC, hbC0⟩
      have HVC : Hid (ValIn wC vC (R J).val) := hvC
      have hbC : Below wS.heap.size wS wC := hbB.trans (hbC0.mono hbB.size)
      clear hvC hbC0 hbB
      go_wp2_with fail
      refine onlyN_mk ⟨hbC, ?_⟩
      refine sc_mustIf ((wanted_of rfl G50.out rfl rfl).trans rfl) ?_
      dsimp only [bare]
      go_wp2_with (go_at_call 18; refine (isStore_any key (R J) vC v14 wC HVC.out (Below.val LXv.out hbC) HVL.out).mono ?_)
      rintro e wD ⟨rfl, hbD0⟩
      have hbD : Below wS.heap.size wS wD := hbC.trans (hbD0.mono hbC.size)
      clear HVC hbD0 hbC EX EA EB i1 i2 i3
      go_wp2_with fail
      refine onlyN_mk ⟨hbD, ?_⟩
      apply sc_take rfl
      case h => (intro wx hx; go_simp; try with_reducible rfl)
      try simp only [Act.put, List.setIfInBounds_toArray, List.set_cons_zero, List.set_cons_succ]
      refine sc_must ?_
      go_wp2_with fail
      refine onlyN_mk ⟨hbD, sc_nil ?_⟩
      go_wp2_with fail
      go_ret
      exact ⟨rfl, HBE.out.trans (hbD.mono HBE.out.size)⟩
    · have hm1 : (mode == 0) = false := beq_eq_false_iff_ne.2 hm0
      have ez : zF = false := by
        cases zF with
        | false => rfl
        | true => exact absurd (HZF.out.1 rfl).1 hm0
      subst ez
      go_upto_region 20 with fail
      obtain ⟨wS, hwS⟩ : ∃ wS, wS = w15 := ⟨_, rfl⟩
      have hb16 : Below w15.heap.size w15 wS := by rw [hwS]; exact Below.refl _ _
      rw [← hwS]
      clear hwS
      have L8 : Hid (wS.rangeAt w7.heap.size 0 (msgCells (R J) v7)) := Below.range K8.out hb16
      have L8v : Hid (ValIn wS v7 (R J).val) := Below.val K8v.out hb16
      have L12 : Hid (wS.rangeAt w11.heap.size 0 (msgCells (R J) v11)) := Below.range K12.out hb16
      have L12v : Hid (ValIn wS v11 (R J).val) := Below.val K12v.out hb16
      have LX : Hid (wS.rangeAt w14.heap.size 0 (repCells (R J) v14)) := Below.range KX.out hb16
      have LXv : Hid (ValIn wS v14 (R J).val) := Below.val KXv.out hb16
      have LR : Hid (ReadAt wS w3.heap.size key mode (R J) true) := Below.read KR.out hb16
      have HBE : Hid (Below w.heap.size w wS) := by
        have hb3S : Below w3.heap.size w3 wS := hb315.trans (hb16.mono hb315.size)
        exact HB3.out.trans (hb3S.mono HB3.out.size)
      clear K8 K8v K12 K12v KX KXv KR hb16 hb315
      have EX : ∀ w', Below wS.heap.size wS w' → w'.rangeAt w14.heap.size 0 (repCells (R J) v14) := fun w' hw => Below.range LX.out hw
      have EA : ∀ w', Below wS.heap.size wS w' → w'.rangeAt w7.heap.size 0 (msgCells (R J) v7) := fun w' hw => Below.range L8.out hw
      have EB : ∀ w', Below wS.heap.size wS w' → w'.rangeAt w11.heap.size 0 (msgCells (R J) v11) := fun w' hw => Below.range L12.out hw
      refine wp_region_script (fun w' => Below wS.heap.size wS w') [(true, 0), (true, 1), (true, 2), (true, 3), (true, 4), (true, 5), (true, 6), (true, 7), (true, 8), (true, 9), (true, 10), (true, 11), (true, 12), (true, 13), (true, 14), (true, 15), (true, 16), (true, 17), (true, 18), (true, 19), (true, 20), (true, 21), (true, 22), (false, 23), (true, 24), (true, 25), (true, 26), (true, 27), (true, 28), (true, 29), (true, 30), (true, 31), (true, 32), (true, 33), (true, 34), (true, 35), (true, 36), (true, 37), (true, 38), (true, 39), (true, 40), (true, 41), (true, 42), (true, 43), (true, 44), (true, 45), (true, 46), (true, 47), (false, 48), (true, 49), (true, 50), (true, 51), (true, 53), (true, 54), (false, 52), (false, 55), (true, 56), (false, 57)] [2, 7, 12, 17, 20, 25, 29, 32, 37, 42, 45, 50] (by kernel_rfl) (by kernel_rfl) (Below.refl _ _).drew ?_
      intro OPS hO
      simp only [List.map_cons, List.map_nil, List.getElem?_cons_succ, List.getElem?_cons_zero, List.cons.injEq, and_true] at hO
      obtain ⟨h2, h7, h12, h17, h20, h25, h29, h32, h37, h42, h45, h50⟩ := hO
      have G2 : Hid _ := h2
      have G7 : Hid _ := h7
      have G12 : Hid _ := h12
      have G17 : Hid _ := h17
      have G20 : Hid _ := h20
      have G25 : Hid _ := h25
      have G29 : Hid _ := h29
      have G32 : Hid _ := h32
      have G37 : Hid _ := h37
      have G42 : Hid _ := h42
      have G45 : Hid _ := h45
      have G50 : Hid _ := h50
      clear h2 h7 h12 h17 h20 h25 h29 h32 h37 h42 h45 h50
      simp only [scOps, List.getElem?_cons_succ, List.getElem?_cons_zero, Act.put, List.setIfInBounds_toArray, List.set_cons_zero, List.set_cons_succ]
      repeat ((first | apply sc_take rfl | apply sc_takeIf ((wanted_of rfl G2.out rfl rfl).trans rfl) | apply sc_takeIf ((wanted_of rfl G7.out rfl rfl).trans rfl) | apply sc_takeIf ((wanted_of rfl G12.out rfl rfl).trans rfl) | apply sc_takeIf ((wanted_of rfl G17.out rfl rfl).trans rfl) | apply sc_takeIf ((wanted_of rfl G20.out rfl rfl).trans rfl)); try (case h => (intro wx hx; first | exact exec_load_mid 49 _ rfl _ _ rfl _ _ (EX wx hx) Tryf.underlying49 rfl i1 | exact exec_load_mid 43 _ rfl _ _ rfl _ _ (EA wx hx) Tryf.underlying43 rfl i2 | (go_simp; try with_reducible rfl))); try simp only [Act.put, List.setIfInBounds_toArray, List.set_cons_zero, List.set_cons_succ])
      refine sc_mustIf ((wanted_of rfl G20.out rfl rfl).trans rfl) ?_
      dsimp only [bare]
      go_wp2_with (go_at_call 27; refine (msgIs_any (R J) v7 v14 wS.drew (Below.val L8v.out (Below.refl _ _).drew) (Below.val LXv.out (Below.refl _ _).drew) HVL.out).mono ?_)
      rintro e wA ⟨rfl, hbA0⟩
      have hbA : Below wS.heap.size wS wA := (Below.refl _ _).drew.trans hbA0
      clear hbA0
      go_wp2_with fail
      refine onlyN_mk ⟨hbA, ?_⟩
      repeat ((first | apply sc_take rfl | apply sc_takeIf ((wanted_of rfl G25.out rfl rfl).trans rfl) | apply sc_takeIf ((wanted_of rfl G29.out rfl rfl).trans rfl) | apply sc_takeIf ((wanted_of rfl G32.out rfl rfl).trans rfl) | apply sc_takeIf ((wanted_of rfl G37.out rfl rfl).trans rfl) | apply sc_takeIf ((wanted_of rfl G42.out rfl rfl).trans rfl) | apply sc_takeIf ((wanted_of rfl G45.out rfl rfl).trans rfl)); try (case h => (intro wx hx; first | exact exec_load_mid 49 _ rfl _ _ rfl _ _ (EX wx hx) Tryf.underlying49 rfl i1 | exact exec_load_mid 43 _ rfl _ _ rfl _ _ (EB wx hx) Tryf.underlying43 rfl i3 | (go_simp; try with_reducible rfl))); try simp only [Act.put, List.setIfInBounds_toArray, List.set_cons_zero, List.set_cons_succ])
      refine sc_mustIf ((wanted_of rfl G45.out rfl rfl).trans rfl) ?_
      dsimp only [bare]
      go_wp2_with (go_at_call 27; refine (msgIs_any (R J) v11 v14 wA (Below.val L12v.out hbA) (Below.val LXv.out hbA) HVL.out).mono ?_)
      rintro e wB ⟨rfl, hbB0⟩
      have hbB : Below wS.heap.size wS wB := hbA.trans (hbB0.mono hbA.size)
      clear hbB0 hbA
      go_wp2_with fail
      refine onlyN_mk ⟨hbB, ?_⟩
      repeat ((first | apply sc_take rfl | apply sc_takeIf ((wanted_of rfl G50.out rfl rfl).trans rfl)); try (case h => (intro wx hx; first | exact exec_load_mid 49 _ rfl _ _ rfl _ _ (EX wx hx) Tryf.underlying49 rfl i1 | (go_simp; try with_reducible rfl))); try simp only [Act.put, List.setIfInBounds_toArray, List.set_cons_zero, List.set_cons_succ])
      refine sc_mustIf ((wanted_of rfl G50.out rfl rfl).trans rfl) ?_
      dsimp only [bare]
      go_wp2_with (go_at_call 13; refine (req_store w3.heap.size key mode (R J) wB (Below.read LR.out hbB)).mono ?_)
      rintro e wC ⟨vC, rfl, hvC, hbC0⟩
      have HVC : Hid (ValIn wC vC (R J).val) := hvC
      have hbC : Below wS.heap.size wS wC := hbB.trans (hbC0.mono hbB.size)
      clear hvC hbC0 hbB
      go_wp2_with fail
      refine onlyN_mk ⟨hbC, ?_⟩
      refine sc_mustIf ((wanted_of rfl G50.out rfl rfl).trans rfl) ?_
      dsimp only [bare]
      go_wp2_with (go_at_call 18; refine (isStore_any key (R J) vC v14 wC HVC.out (Below.val LXv.out hbC) HVL.out).mono ?_)
      rintro e wD ⟨rfl, hbD0⟩
      have hbD : Below wS.heap.size wS wD := hbC.trans (hbD0.mono hbC.size)
      clear HVC hbD0 hbC EX EA EB i1 i2 i3
      go_wp2_with fail
      refine onlyN_mk ⟨hbD, ?_⟩
      apply sc_take rfl
      case h => (intro wx hx; go_simp; try with_reducible rfl)
      try simp only [Act.put, List.setIfInBounds_toArray, List.set_cons_zero, List.set_cons_succ]
      refine sc_must ?_
      go_wp2_with fail
      refine onlyN_mk ⟨hbD, sc_nil ?_⟩
      go_wp2_with fail
      go_ret
      exact ⟨rfl, HBE.out.trans (hbD.mono HBE.out.size)⟩
  · have HK : Hid (¬ KeyGood key) := hk
    clear hk
    go_wp2_with fail
    go_at_call 11
    refine (new_bad F key mode w3 (by rw [HB3.out.tape]; exact HF.out) HK.out hkey).mono ?_
    rintro e w4 ⟨q, rfl, hb4⟩
    have HB4 : Hid (Below w.heap.size w w4) := HB3.out.trans (hb4.mono HB3.out.size)
    go_wp2_with fail
    go_at_call 12
    refine (keyOK_any key w4 hkey).mono ?_
    rintro e w5 ⟨⟨r, rfl, hr⟩, hw5⟩
    rw [hw5]
    clear hw5 w5
    cases r with
    | true => exact absurd (hr.1 rfl) HK.out
    | false =>
      clear hr
      go_wp2_with fail
      go_ret
      exact ⟨rfl, HB4.out⟩
end Go.Proofs.Qxb6615539aFmt
