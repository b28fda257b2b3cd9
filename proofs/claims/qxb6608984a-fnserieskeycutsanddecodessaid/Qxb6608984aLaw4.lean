import Derived.Test.Qxb6608984aSame
namespace Go.Proofs.Qxb6608984a
open Go.RowKit
set_option linter.unusedSimpArgs false

def Law (w : World) (e : Ending) (w' : World) : Prop := e = .returned (.bool true) ∧ Below w.heap.size w w'

theorem eq_list (s t : ByteArray) : (s.toList == t.toList) = decide (bts s = bts t) := by
  rw [ByteArray.toList_eq, ByteArray.toList_eq]
  by_cases h : bts s = bts t
  · rw [decide_eq_true h]; exact beq_iff_eq.2 h
  · rw [decide_eq_false h]; exact beq_eq_false_iff_ne.2 h

theorem size_key (l : List UInt8) : (ByteArray.mk l.toArray).size = l.length := rfl

set_option maxHeartbeats 8000000 in
theorem law4_any (a : Option Addr) (b off n c : Nat) (N V : Nat → ByteArray) (a2 : Option Addr) (b2 off2 m c2 : Nat) (N2 V2 : Nat → ByteArray) (w : World) (hn : n ≤ 9223372036854775807) (hm : m ≤ 9223372036854775807) (h : PairsIn w a b off n N V) (hs : Short n N V) (h2 : PairsIn w a2 b2 off2 m N2 V2) (hs2 : Short m N2 V2) :
    Calls Try.prog 4 #[.slice a n c, .slice a2 m c2] w (Law w) := by
  have H : Hid _ := h
  have HS : Hid _ := hs
  have H2 : Hid _ := h2
  have HS2 : Hid _ := hs2
  clear h hs h2 hs2
  go_enter Try.func4, Try.ntmps4
  go_wp2_with fail
  go_at_call 13
  refine (bytes13 a b off n c N V a2 b2 off2 m c2 N2 V2 w hn hm H.out HS.out H2.out HS2.out).mono ?_
  rintro e w0 ⟨hw0, r, rfl⟩
  rw [hw0]
  clear hw0 w0
  cases r with
  | false =>
    go_wp2_with fail
    go_ret
    exact ⟨rfl, Below.refl _ _⟩
  | true =>
  go_wp2_with fail
  go_at_call 8
  refine (size_any a b off n c N V w hn H.out HS.out).mono ?_
  rintro e w1 ⟨⟨t1, rfl, t10, t11, ht1⟩, hb1⟩
  have HT1 : Hid _ := ht1
  clear ht1
  go_wp2_with fail
  go_at_call 8
  refine (size_any a2 b2 off2 m c2 N2 V2 w1 hm (Below.pairs H2.out hb1) HS2.out).mono ?_
  rintro e w2 ⟨⟨t2, rfl, t20, t21, ht2⟩, hb12⟩
  have HT2 : Hid _ := ht2
  have hb2 : Below w.heap.size w w2 := hb1.trans (hb12.mono hb1.size)
  clear ht2 hb12 hb1
  by_cases hbig : t1 + t2 > 1048576
  · go_wp2_with fail
    go_ret
    exact ⟨rfl, hb2⟩
  have hn1 : n ≤ 65536 := (HT1.out (by omega)).1
  have hm1 : m ≤ 65536 := (HT2.out (by omega)).1
  have HA : Hid (tot N V n ≤ 1048576) := by have := (HT1.out (by omega)).2; show tot N V n ≤ 1048576; omega
  have HB : Hid (tot N2 V2 m ≤ 1048576) := by have := (HT2.out (by omega)).2; show tot N2 V2 m ≤ 1048576; omega
  clear HT1 HT2
  go_wp2_with fail
  go_at_call 12
  refine (anyFF_any a b off n c N V w2 hn1 (Below.pairs H.out hb2) HA.out).mono ?_
  rintro e w0 ⟨hw0, r, rfl, hr⟩
  rw [hw0]
  clear hw0 w0
  cases r with
  | true =>
    clear hr
    go_wp2_with fail
    go_ret
    exact ⟨rfl, hb2⟩
  | false =>
  have CA : Hid (Clean n N V) := hr.1 rfl
  clear hr
  go_wp2_with fail
  go_at_call 12
  refine (anyFF_any a2 b2 off2 m c2 N2 V2 w2 hm1 (Below.pairs H2.out hb2) HB.out).mono ?_
  rintro e w0 ⟨hw0, r, rfl, hr⟩
  rw [hw0]
  clear hw0 w0
  cases r with
  | true =>
    clear hr
    go_wp2_with fail
    go_ret
    exact ⟨rfl, hb2⟩
  | false =>
  have CB : Hid (Clean m N2 V2) := hr.1 rfl
  clear hr
  go_wp2_with fail
  go_at_call 9
  refine (labels_any a b off n c N V w2 hn1 (Below.pairs H.out hb2)).mono ?_
  rintro e w3 ⟨g3, rfl, hp3, hb23⟩
  have P3 : Hid _ := hp3
  have hb3 : Below w.heap.size w w3 := hb2.trans (hb23.mono hb2.size)
  clear hp3 hb23 hb2
  go_wp2_with fail
  go_at_call 10
  refine (key_any (some ⟨g3, 0, none⟩) g3 0 n n N V w3 hn1 P3.out HA.out).mono ?_
  rintro e w4 ⟨rfl, hb34⟩
  have hb4 : Below w.heap.size w w4 := hb3.trans (hb34.mono hb3.size)
  clear hb34 hb3 P3
  go_wp2_with fail
  go_at_call 9
  refine (labels_any a2 b2 off2 m c2 N2 V2 w4 hm1 (Below.pairs H2.out hb4)).mono ?_
  rintro e w5 ⟨g5, rfl, hp5, hb45⟩
  have P5 : Hid _ := hp5
  have hb5 : Below w.heap.size w w5 := hb4.trans (hb45.mono hb4.size)
  clear hp5 hb45 hb4
  go_wp2_with fail
  go_at_call 10
  refine (key_any (some ⟨g5, 0, none⟩) g5 0 m m N2 V2 w5 hm1 P5.out HB.out).mono ?_
  rintro e w6 ⟨rfl, hb56⟩
  have hb6 : Below w.heap.size w w6 := hb5.trans (hb56.mono hb5.size)
  clear hb56 hb5 P5
  obtain ⟨ka, hka⟩ : ∃ ka, ka = ByteArray.mk (keyOf N V n).toArray := ⟨_, rfl⟩
  obtain ⟨kb, hkb⟩ : ∃ kb, kb = ByteArray.mk (keyOf N2 V2 m).toArray := ⟨_, rfl⟩
  have za : ka.size = klen N V n := by rw [hka, size_key, keyOf_len]
  have zb : kb.size = klen N2 V2 m := by rw [hkb, size_key, keyOf_len]
  have ba : Hid (bts ka = keyOf N V n) := by rw [hka]; rfl
  have bb : Hid (bts kb = keyOf N2 V2 m) := by rw [hkb]; rfl
  have la : klen N V n ≤ 1048576 := by have := klen_tot N V n; have := HA.out; omega
  have lb : klen N2 V2 m ≤ 1048576 := by have := klen_tot N2 V2 m; have := HB.out; omega
  rw [← hka, ← hkb]
  clear hka hkb
  go_wp2_with fail
  go_at_call 11
  refine (keyLen_any a b off n c N V w6 hn1 (Below.pairs H.out hb6) HA.out).mono ?_
  rintro e w7 ⟨rfl, hb67⟩
  have hb7 : Below w.heap.size w w7 := hb6.trans (hb67.mono hb6.size)
  clear hb67 hb6
  rw [← za]
  go_wp2_with fail
  go_at_call 11
  refine (keyLen_any a2 b2 off2 m c2 N2 V2 w7 hm1 (Below.pairs H2.out hb7) HB.out).mono ?_
  rintro e w8 ⟨rfl, hb78⟩
  have hb8 : Below w.heap.size w w8 := hb7.trans (hb78.mono hb7.size)
  clear hb78 hb7
  rw [← zb]
  go_wp2_with fail
  go_at_call 14
  refine (same_any a b off n c N V a2 b2 off2 m c2 N2 V2 w8 hn1 hm1 (Below.pairs H.out hb8) (Below.pairs H2.out hb8)).mono ?_
  rintro e w9 ⟨⟨r, rfl, hr⟩, hb89⟩
  have hb9 : Below w.heap.size w w9 := hb8.trans (hb89.mono hb8.size)
  have hq : (ka.toList == kb.toList) = r := by
    rw [eq_list]
    cases r with
    | true =>
      obtain ⟨e1, e2⟩ := hr.1 rfl
      refine decide_eq_true ?_
      rw [ba.out, bb.out, ← e1]
      exact keyOf_congr e2
    | false =>
      refine decide_eq_false fun q => ?_
      rw [ba.out, bb.out] at q
      have := hr.2 (keyOf_inj CA.out CB.out q)
      cases this
  clear hr hb89 hb8
  cases r
  all_goals
    go_wp2_with fail
    go_ret
    exact ⟨rfl, hb9⟩
end Go.Proofs.Qxb6608984a
