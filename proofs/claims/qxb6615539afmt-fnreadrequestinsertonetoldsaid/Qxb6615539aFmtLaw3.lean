import Derived.Test.Qxb6615539aFmtIsStore
namespace Go.Proofs.Qxb6615539aFmt
open Go.RowKit Go.Extern.Stop Go.Stop Go.Extern
set_option linter.unusedSimpArgs false

/-- A message, a reply in a new variable. -/
structure BoxNew (cs : List Value) (w w' : World) : Prop where
  range : w'.rangeAt w.heap.size 0 cs
  bel : Below w.heap.size w w'
theorem boxNew {w W : World} {cs : List Value} {n : Nat} (N : NewVar w n W) (hn : cs.length = n) : BoxNew cs w (W.setCells w.heap.size 0 cs) :=
  ⟨World.rangeAt_setCells_same _ _ _ _ (by rw [hn]; exact N.th), Below.setCells (Nat.le_refl _) _ _ _ N.bel⟩

theorem wpList_put49 {ops : Array Oper} {rest : List Oper} {op : Oper} {a : Act} {w : World} {Q : Exit → Act → World → Prop} (hg : op.guard = none) (x y : Operand) (ho : op.op = .store 49 x y) (b o : Nat) (r : Rep) (v : Value) (hx : a.eval x = .pointer (some ⟨b, o, none⟩)) (hy : a.eval y = .agg (repCells r v).toArray)
    (hv : v.oneCell' = true) (ht : w.there b o 59) (h : wpList Tryf.prog ops Q rest (a.put op.dst undef) (w.setCells b o (repCells r v))) : wpList Tryf.prog ops Q (op :: rest) a w := by
  have hsz : (repCells r v).toArray.size = 59 := repCells_len _ _
  refine wpList_store_mid hg 49 x y ho b o _ hx hy (by rw [hsz]; exact ht) (by rw [hsz]; exact info49) (all_oneCell_toArray (repCells_one r v hv)) ?_
  rw [List.toList_toArray]
  exact h
theorem wpList_get49 {ops : Array Oper} {rest : List Oper} {op : Oper} {a : Act} {w : World} {Q : Exit → Act → World → Prop} (hw : Region.wanted op (yielded ops a.tmps) = true) (x : Operand) (ho : op.op = .load 49 x) (b o : Nat) (r : Rep) (v : Value) (hx : a.eval x = .pointer (some ⟨b, o, none⟩)) (hc : w.rangeAt b o (repCells r v))
    (h : wpList Tryf.prog ops Q rest (a.put op.dst (.agg (repCells r v).toArray)) w) : wpList Tryf.prog ops Q (op :: rest) a w :=
  wpList_valueIf hw (exec_load_mid 49 x ho b o hx _ _ hc Tryf.underlying49 rfl (by rw [repCells_len]; exact info49)) h
theorem wpList_get43if {ops : Array Oper} {rest : List Oper} {op : Oper} {a : Act} {w : World} {Q : Exit → Act → World → Prop} (hw : Region.wanted op (yielded ops a.tmps) = true) (x : Operand) (ho : op.op = .load 43 x) (b o : Nat) (r : Rep) (v : Value) (hx : a.eval x = .pointer (some ⟨b, o, none⟩)) (hc : w.rangeAt b o (msgCells r v))
    (h : wpList Tryf.prog ops Q rest (a.put op.dst (.agg (msgCells r v).toArray)) w) : wpList Tryf.prog ops Q (op :: rest) a w :=
  wpList_valueIf hw (exec_load_mid 43 x ho b o hx _ _ hc Tryf.underlying43 rfl (by rw [msgCells_len]; exact info43)) h

/-- A read that was just made. -/
theorem new_read (key : ByteArray) (mode : Int) (w : World) : ReadAt (newWorld key mode w) w.heap.size key mode zeroRep false ∧ Below w.heap.size w (newWorld key mode w) ∧ (newWorld key mode w).heap.size = w.heap.size + 1 := by
  refine ⟨⟨.slice none 0 0, range_box w _ 65, rfl, there_new _ _ _ _ _ ?_, fun q n c h => by simp at h⟩, (Below.refl _ _).alloc (Nat.le_refl _) _, by simp [newWorld]⟩
  rw [List.size_toArray, readCells_len]; exact Nat.le_refl _

/-- The messages lie elsewhere than the read. -/
theorem msgs_apart {w : World} {lo b n p : Nat} {a : Option Addr} {R : Nat → Rep} {key : ByteArray} {mode : Int} {r : Rep} {f : Bool} (h : MsgIn w lo a b 0 n R) (hn : 0 < n) (hr : ReadAt w p key mode r f) : b ≠ p := by
  rintro rfl
  obtain ⟨v, h1, _⟩ := h.rep 0 hn
  obtain ⟨v', g1, _⟩ := hr
  have e1 := (msg_fields h1).1.f0
  have e2 := (readIs g1).c0
  rw [Nat.zero_add, Nat.zero_mul] at e1
  rw [e1] at e2
  cases e2

/-- The end of the law: all the same to whoever called. -/
def Law (w : World) (e : Ending) (w' : World) : Prop := e = .returned (.bool true) ∧ Below w.heap.size w w'

set_option maxHeartbeats 8000000 in
theorem law3_any (F : Interp) (key : ByteArray) (mode : Int) (a : Option Addr) (b off n c : Nat) (R : Nat → Rep) (w : World) (hF : F.answers w.tape) (hkey : key.size ≤ 9223372036854775807) (hn : n ≤ 9223372036854775807)
    (h : RowIn w a b off n R) (hok : ∀ j, j < n → RepOk (R j)) : Calls Tryf.prog 3 #[.string key, .int .u8 mode, .slice a n c] w (Law w) := by
  have H : Hid _ := h
  have HO : Hid _ := hok
  have HF : Hid (F.answers w.tape) := hF
  clear h hok hF
  go_enter Tryf.func3, Tryf.ntmps3
  go_wp2_with fail
  go_at_call 7
  refine (bytes7 key mode a b off n c R w hkey hn H.out HO.out).mono ?_
  rintro e w0 ⟨hw0, r, rfl, hr⟩
  rw [hw0]
  clear hw0 w0
  have HR : Hid _ := hr
  clear hr
  cases r with
  | false =>
    go_wp2_with fail
    go_ret
    exact ⟨rfl, Below.refl _ _⟩
  | true =>
  have HS : Hid (Small n R) := HR.out rfl
  clear HR
  go_wp2_with fail
  go_at_call 9
  refine (strBytes_any key 0 w hkey (by omega)).mono ?_
  rintro e w0 ⟨⟨n0, rfl, hn0⟩, hw0⟩
  rw [hw0]
  clear hw0 w0
  go_wp2_with fail
  go_at_call 8
  refine (repsUse_any a b off n c R n0 w hn hn0 H.out HO.out).mono ?_
  rintro e w1 ⟨⟨n1, rfl, hn1⟩, hb1⟩
  by_cases h0 : n1 < 0
  · go_wp2_with fail
    go_ret
    exact ⟨rfl, hb1⟩
  by_cases hn0 : n = 0
  · subst hn0
    go_wp2_with fail
    go_ret
    exact ⟨rfl, hb1⟩
  have hn3 : (n : Int) ≠ 0 := by omega
  have hn4 : 0 < n := by omega
  have hn5 := HS.out.1
  go_wp2_with fail
  go_at_call 10
  refine (copies_any a b off n c R w1 HS.out (Below.row H.out hb1)).mono ?_
  rintro e w2 ⟨a2, b2, c2, rfl, hrow, hb2⟩
  have HRow : Hid (RowIn w2 a2 b2 0 n R) := hrow
  have HB2 : Hid (Below w.heap.size w w2) := hb1.trans (hb2.mono hb1.size)
  clear hrow hb1 hb2
  by_cases hk : KeyGood key
  · have HK : Hid (KeyGood key) := hk
    clear hk
    go_wp2_with fail
    go_at_call 11
    refine (new_ok key mode w2 HK.out).mono ?_
    rintro e w3 ⟨rfl, hw3⟩
    obtain ⟨hrd, hb3, hs3⟩ := new_read key mode w2
    rw [← hw3] at hrd hb3 hs3
    clear hw3
    have HRd3 : Hid _ := hrd
    clear hrd
    have hp3 : w2.heap.size < w3.heap.size := by omega
    have HB3 : Hid (Below w.heap.size w w3) := HB2.out.trans (hb3.mono HB2.out.size)
    go_wp2_with fail
    go_at_call 12
    refine (keyOK_any key w3 hkey).mono ?_
    rintro e w4 ⟨⟨r, rfl, hr⟩, hw4⟩
    rw [hw4]
    clear hw4 w4
    obtain rfl : r = true := hr.2 HK.out
    clear hr
    go_wp2_with fail
    go_at_call 13
    refine (req_ask w2.heap.size key mode zeroRep w3 HRd3.out).mono ?_
    rintro e w4 ⟨v4, rfl, hv4, hb4⟩
    obtain rfl : v4 = .slice none 0 0 := hv4
    go_wp2_with (first | (refine wpList_new 9 rfl rfl 43 60 rfl zero43 ?_; intro W5 N5) | (refine wpList_put43 rfl _ _ rfl _ _ (askRep key) (.slice none 0 0) rfl rfl rfl N5.out.th ?_; have b5 := boxNew N5.out (msgCells_len (askRep key) (.slice none 0 0)); generalize W5.setCells w4.heap.size 0 (msgCells (askRep key) (.slice none 0 0)) = w5 at b5 ⊢; clear N5 W5))
    have hb35 : Below w3.heap.size w3 w5 := hb4.trans (b5.bel.mono hb4.size)
    have HM9 : Hid (w5.rangeAt w4.heap.size 0 (msgCells (askRep key) (.slice none 0 0))) := b5.range
    have hg9 : w4.heap.size ≠ w2.heap.size := by have := hb4.size; omega
    clear b5
    go_at_call 13
    refine (req_ask w2.heap.size key mode zeroRep w5 (Below.read HRd3.out hb35)).mono ?_
    rintro e w6 ⟨v6, rfl, hv6, hb6⟩
    obtain rfl : v6 = .slice none 0 0 := hv6
    go_wp2_with (first | (refine wpList_new 10 rfl rfl 43 60 rfl zero43 ?_; intro W7 N7) | (refine wpList_put43 rfl _ _ rfl _ _ (askRep key) (.slice none 0 0) rfl rfl rfl N7.out.th ?_; have b7 := boxNew N7.out (msgCells_len (askRep key) (.slice none 0 0)); generalize W7.setCells w6.heap.size 0 (msgCells (askRep key) (.slice none 0 0)) = w7 at b7 ⊢; clear N7 W7))
    have hb57 : Below w5.heap.size w5 w7 := hb6.trans (b7.bel.mono hb6.size)
    have hb37 : Below w3.heap.size w3 w7 := hb35.trans (hb57.mono hb35.size)
    have HM10 : Hid (w7.rangeAt w6.heap.size 0 (msgCells (askRep key) (.slice none 0 0))) := b7.range
    have HM9b : Hid (w7.rangeAt w4.heap.size 0 (msgCells (askRep key) (.slice none 0 0))) := Below.range HM9.out hb57
    have hg10 : w6.heap.size ≠ w2.heap.size := by have := hb6.size; have := hb35.size; omega
    clear b7 HM9
    have hb27 : Below w2.heap.size w2 w7 := hb3.trans (hb37.mono hb3.size)
    go_at_call 15
    refine (msgs_any a2 b2 0 n c2 R w7 HS.out (Below.row HRow.out hb27)).mono ?_
    rintro e w8 ⟨a8, b8, c8, rfl, hm8, hb8⟩
    have HMs : Hid _ := hm8
    have HRd8 : Hid (ReadAt w8 w2.heap.size key mode zeroRep false) := Below.read (Below.read HRd3.out hb37) hb8
    clear hm8
    go_wp2_with fail
    go_at_call 14
    refine (comp_first w2.heap.size key mode zeroRep w7.heap.size a8 b8 0 n c8 R w8 HRd8.out HMs.out (by have := hb37.size; omega) (msgs_apart HMs.out hn4 HRd8.out) hn4 hn5).mono ?_
    rintro e w9 ⟨⟨z, rfl, _⟩, hrd9, hbut⟩
    have HRd9 : Hid _ := hrd9
    clear hrd9
    have hp8 : w2.heap.size < w8.heap.size := by have := hb37.size; have := hb8.size; omega
    have hb29 : Below w2.heap.size w2 w9 := (hb27.trans (hb8.mono hb27.size)).trans (hbut.below _ (Nat.le_refl _) hp8)
    have HM9c : Hid (w9.rangeAt w4.heap.size 0 (msgCells (askRep key) (.slice none 0 0))) := hbut.range (Below.range HM9b.out hb8) hg9
    have HM10c : Hid (w9.rangeAt w6.heap.size 0 (msgCells (askRep key) (.slice none 0 0))) := hbut.range (Below.range HM10.out hb8) hg10
    clear HMs HRd8 HRd3 HM9b HM10 hbut hb8 hb37 hb57 hb35 hb3 hb4 hb6 hb27
    obtain ⟨J, hJ⟩ : ∃ J, J = hi R (n - 1) := ⟨_, rfl⟩
    have hJn : J < n := by have := hi_le R (n - 1); omega
    have HVL : Hid (((R J).val.getD []).length ≤ 1048576) := HS.out.2 _ hJn
    rw [← hJ] at HRd9
    have HJ : Hid (J = hi R (n - 1)) := hJ
    clear hJ
    have hJ0 : (0 : Int) ≤ (J : Int) := by omega
    have hJ2 : (J : Int) < (n : Int) := by omega
    go_wp2_with fail
    go_at_call 13
    refine (req_store w2.heap.size key mode (R J) w9 HRd9.out).mono ?_
    rintro e w10 ⟨v10, rfl, hv10, hb10⟩
    have HV10 : Hid (ValIn w10 v10 (R J).val) := hv10
    clear hv10
    go_wp2_with (first | (refine wpList_new 11 rfl rfl 43 60 rfl zero43 ?_; intro W11 N11) | (refine wpList_put43 rfl _ _ rfl _ _ (storeRep key (R J)) v10 rfl rfl (valIn_one HV10.out) N11.out.th ?_; have b11 := boxNew N11.out (msgCells_len (storeRep key (R J)) v10); generalize W11.setCells w10.heap.size 0 (msgCells (storeRep key (R J)) v10) = w11 at b11 ⊢; clear N11 W11))
    have hb911 : Below w9.heap.size w9 w11 := hb10.trans (b11.bel.mono hb10.size)
    have HM11 : Hid (w11.rangeAt w10.heap.size 0 (msgCells (storeRep key (R J)) v10)) := b11.range
    have HV11 : Hid (ValIn w11 v10 (R J).val) := Below.val HV10.out b11.bel
    clear b11 HV10
    go_at_call 13
    refine (req_store w2.heap.size key mode (R J) w11 (Below.read HRd9.out hb911)).mono ?_
    rintro e w12 ⟨v12, rfl, hv12, hb12⟩
    have HV12 : Hid (ValIn w12 v12 (R J).val) := hv12
    clear hv12
    go_wp2_with (first | (refine wpList_new 12 rfl rfl 43 60 rfl zero43 ?_; intro W13 N13) | (refine wpList_put43 rfl _ _ rfl _ _ (storeRep key (R J)) v12 rfl rfl (valIn_one HV12.out) N13.out.th ?_; have b13 := boxNew N13.out (msgCells_len (storeRep key (R J)) v12); generalize W13.setCells w12.heap.size 0 (msgCells (storeRep key (R J)) v12) = w13 at b13 ⊢; clear N13 W13))
    have hb1113 : Below w11.heap.size w11 w13 := hb12.trans (b13.bel.mono hb12.size)
    have hb913 : Below w9.heap.size w9 w13 := hb911.trans (hb1113.mono hb911.size)
    have HM13 : Hid (w13.rangeAt w12.heap.size 0 (msgCells (storeRep key (R J)) v12)) := b13.range
    have HV13 : Hid (ValIn w13 v12 (R J).val) := Below.val HV12.out b13.bel
    have HM11b : Hid (w13.rangeAt w10.heap.size 0 (msgCells (storeRep key (R J)) v10)) := Below.range HM11.out hb1113
    have HV11b : Hid (ValIn w13 v10 (R J).val) := Below.val HV11.out hb1113
    clear b13 HV12 HM11 HV11
    have hb213 : Below w2.heap.size w2 w13 := hb29.trans (hb913.mono hb29.size)
    go_at_call 16
    refine (hiIdx_any a2 b2 0 n c2 R w13 (Below.row HRow.out hb213) hn4 hn5).mono ?_
    rintro e w14 ⟨rfl, hb14⟩
    rw [← HJ.out]
    obtain rfl := HRow.out.at_ hn4
    have hb214 : Below w2.heap.size w2 w14 := hb213.trans (hb14.mono hb213.size)
    obtain ⟨v14, hr14, hv14⟩ := Below.rep (HRow.out.rep J hJn) hb214
    have HR14 : Hid (w14.rangeAt b2 (J * 59) (repCells (R J) v14)) := by rw [Nat.zero_add] at hr14; exact hr14
    have HV14 : Hid (ValIn w14 v14 (R J).val) := hv14
    clear hr14 hv14
    go_upto_region 19 with (first | refine wpList_get49 rfl _ rfl _ _ (R J) v14 rfl HR14.out ?_ | (refine wpList_new 13 rfl rfl 49 59 rfl zero49 ?_; intro W15 N15) | (refine wpList_put49 rfl _ _ rfl _ _ (R J) v14 rfl rfl (valIn_one HV14.out) N15.out.th ?_; have b15 := boxNew N15.out (repCells_len (R J) v14); generalize W15.setCells w14.heap.size 0 (repCells (R J) v14) = w15 at b15 ⊢; clear N15 W15))
    have hb1315 : Below w13.heap.size w13 w15 := hb14.trans (b15.bel.mono hb14.size)
    have hb915 : Below w9.heap.size w9 w15 := hb913.trans (hb1315.mono hb913.size)
    have HBE : Hid (Below w.heap.size w w15) := by
      have hb215 : Below w2.heap.size w2 w15 := hb29.trans (hb915.mono hb29.size)
      exact HB2.out.trans (hb215.mono HB2.out.size)
    have HX : Hid (w15.rangeAt w14.heap.size 0 (repCells (R J) v14)) := b15.range
    have HXV : Hid (ValIn w15 v14 (R J).val) := Below.val HV14.out b15.bel
    have K9 : Hid (w15.rangeAt w4.heap.size 0 (msgCells (askRep key) (.slice none 0 0))) := Below.range HM9c.out hb915
    have K10 : Hid (w15.rangeAt w6.heap.size 0 (msgCells (askRep key) (.slice none 0 0))) := Below.range HM10c.out hb915
    have K11 : Hid (w15.rangeAt w10.heap.size 0 (msgCells (storeRep key (R J)) v10)) := Below.range HM11b.out hb1315
    have K11v : Hid (ValIn w15 v10 (R J).val) := Below.val HV11b.out hb1315
    have K12 : Hid (w15.rangeAt w12.heap.size 0 (msgCells (storeRep key (R J)) v12)) := Below.range HM13.out hb1315
    have K12v : Hid (ValIn w15 v12 (R J).val) := Below.val HV13.out hb1315
    clear b15 hb1315 hb915 HM9c HM10c HM11b HV11b HM13 HV13 HV14 HR14 hb14 hb214 hb213 hb913 hb1113 hb12 hb911 hb10 hb29
    go_wp2_with (first | refine wpList_get43if rfl _ rfl _ _ (askRep key) (.slice none 0 0) rfl K9.out ?_ | (go_at_call 17; refine (isRead_any key w15).mono ?_))
    rintro e w16 ⟨rfl, hb16⟩
    have L10 : Hid (w16.rangeAt w6.heap.size 0 (msgCells (askRep key) (.slice none 0 0))) := Below.range K10.out hb16
    clear K9 K10
    go_wp2_with (first | refine wpList_get43if rfl _ rfl _ _ (askRep key) (.slice none 0 0) rfl L10.out ?_ | (go_at_call 17; refine (isRead_any key w16).mono ?_))
    rintro e w17 ⟨rfl, hb17⟩
    have hb157 : Below w15.heap.size w15 w17 := hb16.trans (hb17.mono hb16.size)
    have L11 : Hid (w17.rangeAt w10.heap.size 0 (msgCells (storeRep key (R J)) v10)) := Below.range K11.out hb157
    have LX : Hid (w17.rangeAt w14.heap.size 0 (repCells (R J) v14)) := Below.range HX.out hb157
    clear L10 hb16 hb17
    go_wp2_with (first | refine wpList_get43if rfl _ rfl _ _ (storeRep key (R J)) v10 rfl L11.out ?_ | refine wpList_get49 rfl _ rfl _ _ (R J) v14 rfl LX.out ?_ | (go_at_call 18; refine (isStore_any key (R J) v10 v14 w17 (Below.val K11v.out hb157) (Below.val HXV.out hb157) HVL.out).mono ?_))
    rintro e w18 ⟨rfl, hb18⟩
    have hb158 : Below w15.heap.size w15 w18 := hb157.trans (hb18.mono hb157.size)
    have M12 : Hid (w18.rangeAt w12.heap.size 0 (msgCells (storeRep key (R J)) v12)) := Below.range K12.out hb158
    have MX : Hid (w18.rangeAt w14.heap.size 0 (repCells (R J) v14)) := Below.range HX.out hb158
    clear L11 LX hb157 hb18
    go_wp2_with (first | refine wpList_get43if rfl _ rfl _ _ (storeRep key (R J)) v12 rfl M12.out ?_ | refine wpList_get49 rfl _ rfl _ _ (R J) v14 rfl MX.out ?_ | (go_at_call 18; refine (isStore_any key (R J) v12 v14 w18 (Below.val K12v.out hb158) (Below.val HXV.out hb158) HVL.out).mono ?_))
    rintro e w19 ⟨rfl, hb19⟩
    have hb159 : Below w15.heap.size w15 w19 := hb158.trans (hb19.mono hb158.size)
    clear M12 MX hb158 hb19
    go_wp2_with fail
    go_ret
    exact ⟨rfl, HBE.out.trans (hb159.mono HBE.out.size)⟩
  · have HK : Hid (¬ KeyGood key) := hk
    clear hk
    go_wp2_with fail
    go_at_call 11
    refine (new_bad F key mode w2 (by rw [HB2.out.tape]; exact HF.out) HK.out hkey).mono ?_
    rintro e w3 ⟨q, rfl, hb3⟩
    have HB3 : Hid (Below w.heap.size w w3) := HB2.out.trans (hb3.mono HB2.out.size)
    go_wp2_with fail
    go_at_call 12
    refine (keyOK_any key w3 hkey).mono ?_
    rintro e w4 ⟨⟨r, rfl, hr⟩, hw4⟩
    rw [hw4]
    clear hw4 w4
    cases r with
    | true => exact absurd (hr.1 rfl) HK.out
    | false =>
      clear hr
      go_wp2_with fail
      go_ret
      exact ⟨rfl, HB3.out⟩
end Go.Proofs.Qxb6615539aFmt
