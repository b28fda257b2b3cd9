import Derived.Test.Qxb6608984aScript
import Derived.Test.Qxb6608984aLaw4
namespace Go.Proofs.Qxb6608984a
open Go.RowKit
set_option linter.unusedSimpArgs false

theorem pairs_tail {w : World} {b n k : Nat} {N V : Nat → ByteArray} (h : PairsIn w (some ⟨b, 0, none⟩) b 0 n N V) (hk : k ≤ n) (a : Option Addr) (ha : k < n → a = some ⟨b, k * 2, none⟩) : PairsIn w a b (k * 2) (n - k) (fun i => N (k + i)) (fun i => V (k + i)) := by
  refine ⟨fun h0 => ha (by omega), fun j hj => ?_, fun j hj => ?_⟩
  · have := h.name (k + j) (by omega)
    rwa [show 0 + (k + j) * 2 = k * 2 + j * 2 by omega] at this
  · have := h.val (k + j) (by omega)
    rwa [show 0 + (k + j) * 2 + 1 = k * 2 + j * 2 + 1 by omega] at this
theorem pairs_head {w : World} {b n k : Nat} {N V : Nat → ByteArray} (h : PairsIn w (some ⟨b, 0, none⟩) b 0 n N V) (hk : k ≤ n) : PairsIn w (some ⟨b, 0, none⟩) b 0 k N V :=
  ⟨fun _ => rfl, fun j hj => h.name j (by omega), fun j hj => h.val j (by omega)⟩
theorem tot_tail (N V : Nat → ByteArray) (k : Nat) : ∀ m, tot N V (k + m) = tot N V k + tot (fun i => N (k + i)) (fun i => V (k + i)) m
  | 0 => by simp [tot]
  | m + 1 => by rw [Nat.add_succ, tot, tot_tail N V k m, tot]; omega

/-- Where the decoding stands: field f began at p; q is the place at hand. -/
structure At (L : Nat → List UInt8) (m f p q : Nat) : Prop where
  fm : f ≤ m
  pf : p = start L f
  pq : p ≤ q
  qm : q ≤ start L m
  inn : f < m → q ≤ p + (L f).length
  out : f = m → q = p

section
variable {L : Nat → List UInt8} {m f p q : Nat}
theorem At.lt (h : At L m f p q) (hq : q < start L m) : f < m := by
  rcases Nat.lt_or_ge f m with h1 | h1
  · exact h1
  · have e : f = m := Nat.le_antisymm h.fm h1
    have := h.out e
    have := h.pf
    rw [e] at this
    omega
theorem At.inside (h : At L m f p q) (hf : f < m) (hq : q < p + (L f).length) : ∃ x, (enc L m)[q]? = some x ∧ x ∈ L f := by
  have h1 := enc_get L m f (q - p) hf (by omega)
  rw [← h.pf, show p + (q - p) = q by have := h.pq; omega, List.getElem?_append_left (by have := h.pq; omega)] at h1
  refine ⟨(L f)[q - p]'(by have := h.pq; omega), ?_, List.getElem_mem _⟩
  rw [h1, List.getElem?_eq_getElem]
theorem At.ends (h : At L m f p q) (hf : f < m) (hq : q = p + (L f).length) : (enc L m)[q]? = some 255 := by
  have h1 := enc_get L m f (L f).length hf (Nat.le_refl _)
  rw [← h.pf, ← hq] at h1
  rw [h1]; simp
theorem At.next (h : At L m f p q) (hf : f < m) (hq : q < p + (L f).length) (hm : q < start L m) : At L m f p (q + 1) :=
  ⟨h.fm, h.pf, by have := h.pq; omega, hm, fun _ => hq, fun e => by omega⟩
theorem At.field (h : At L m f p q) (hf : f < m) (hq : q = p + (L f).length) : At L m (f + 1) (q + 1) (q + 1) := by
  have e : q + 1 = start L (f + 1) := by rw [start, ← h.pf, hq]
  exact ⟨hf, e, Nat.le_refl _, by rw [e]; exact start_mono L (f + 1) m hf, fun _ => Nat.le_add_right _ _, fun _ => rfl⟩
theorem At.done (h : At L m f p q) (hq : q = start L m) : f = m ∧ p = q := by
  rcases Nat.lt_or_ge f m with h1 | h1
  · have h2 := h.inn h1
    have h3 := start_mono L (f + 1) m h1
    rw [start, ← h.pf] at h3
    omega
  · have e : f = m := Nat.le_antisymm h.fm h1
    exact ⟨e, (h.out e).symm⟩
end
theorem byte_at {K : ByteArray} {l : List UInt8} (h : bts K = l) (q : Nat) (hq : q < K.size) (x : UInt8) (hx : l[q]? = some x) : K[q] = x := by
  rw [← h] at hx
  obtain ⟨h1, h2⟩ := List.getElem?_eq_some_iff.1 hx
  rw [← h2]
  simp [bts]
  rfl
theorem extract_bts (K : ByteArray) (p q : Nat) : bts (K.extract p q) = ((bts K).drop p).take (q - p) := by
  unfold bts
  rw [ByteArray.data_extract, Array.toList_extract, List.extract_eq_take_drop]
theorem piece_list {K t : ByteArray} {N V : Nat → ByteArray} {n f p q : Nat} (hK : bts K = keyOf N V n) (h : At (fld N V) (2 * n) f p q) (hf : f < 2 * n) (hq : q = p + (fld N V f).length) (ht : bts t = fld N V f) : ((K.extract p q).toList == t.toList) = true := by
  rw [eq_list]
  refine decide_eq_true ?_
  rw [extract_bts, ht, hK, show q - p = (fld N V f).length by omega, h.pf]
  exact enc_piece (fld N V) (2 * n) f hf
theorem start_key (N V : Nat → ByteArray) (n : Nat) : start (fld N V) (2 * n) = klen N V n := by rw [← enc_len, ← keyOf_len]; rfl

theorem bts_append (s t : ByteArray) : bts (s ++ t) = bts s ++ bts t := by
  simp [bts]

theorem cut_list {K K1 K2 : ByteArray} {N V : Nat → ByteArray} {n k : Nat} (hk : k ≤ n) (h : bts K = keyOf N V n) (h1 : bts K1 = keyOf N V k) (h2 : bts K2 = keyOf (fun i => N (k + i)) (fun i => V (k + i)) (n - k)) : (K.toList == (K1 ++ K2).toList) = true := by
  rw [eq_list]
  refine decide_eq_true ?_
  rw [bts_append, h, h1, h2, ← keyOf_cut]
  congr 1
  omega

set_option maxHeartbeats 8000000 in
theorem law3_any (a : Option Addr) (b off n c : Nat) (N V : Nat → ByteArray) (p : Int) (w : World) (hn : n ≤ 9223372036854775807) (h : PairsIn w a b off n N V) (hs : Short n N V) :
    Calls Try.prog 3 #[.slice a n c, .int .i64 p] w (Law w) := by
  have H : Hid _ := h
  have HS : Hid _ := hs
  clear h hs
  go_enter Try.func3, Try.ntmps3
  go_wp2_with fail
  go_at_call 7
  refine (bytes7 a b off n c N V p w hn H.out HS.out).mono ?_
  rintro e w0 ⟨hw0, r, rfl⟩
  rw [hw0]
  clear hw0 w0
  cases r with
  | false =>
    go_wp2_with fail
    go_ret
    exact ⟨rfl, Below.refl _ _⟩
  | true =>
  go_wp2_with fail
  go_at_call 8
  refine (size_any a b off n c N V w hn H.out HS.out).mono ?_
  rintro e w1 ⟨⟨t1, rfl, t10, t11, ht1⟩, hb1⟩
  have HT1 : Hid _ := ht1
  clear ht1
  by_cases hbig : t1 > 1048576
  · go_wp2_with fail
    go_ret
    exact ⟨rfl, hb1⟩
  have hn1 : n ≤ 65536 := (HT1.out (by omega)).1
  have HA : Hid (tot N V n ≤ 1048576) := by have := (HT1.out (by omega)).2; show tot N V n ≤ 1048576; omega
  clear HT1
  by_cases hp0 : p < 0
  · go_wp2_with fail
    go_ret
    exact ⟨rfl, hb1⟩
  by_cases hp1 : p > (n : Int)
  · go_wp2_with fail
    go_ret
    exact ⟨rfl, hb1⟩
  obtain ⟨k, rfl⟩ : ∃ k : Nat, p = k := ⟨p.toNat, by omega⟩
  have hkn : k ≤ n := by omega
  have hk0 : (0 : Int) ≤ (k : Int) := by omega
  have hk1 : (k : Int) ≤ (n : Int) := by omega
  clear hp0 hp1
  go_wp2_with fail
  go_at_call 9
  refine (labels_any a b off n c N V w1 hn1 (Below.pairs H.out hb1)).mono ?_
  rintro e w2 ⟨g, rfl, hp2, hb12⟩
  have P2 : Hid _ := hp2
  have hb2 : Below w.heap.size w w2 := hb1.trans (hb12.mono hb1.size)
  clear hp2 hb12 hb1
  go_wp2_with fail
  go_at_call 10
  refine (key_any (some ⟨g, 0, none⟩) g 0 n n N V w2 hn1 P2.out HA.out).mono ?_
  rintro e w3 ⟨rfl, hb23⟩
  have hb3 : Below w.heap.size w w3 := hb2.trans (hb23.mono hb2.size)
  have P3 : Hid (PairsIn w3 (some ⟨g, 0, none⟩) g 0 n N V) := Below.pairs P2.out hb23
  clear hb23 hb2 P2
  obtain ⟨K, hK⟩ : ∃ K, K = ByteArray.mk (keyOf N V n).toArray := ⟨_, rfl⟩
  have zK : K.size = klen N V n := by rw [hK, size_key, keyOf_len]
  have bK : Hid (bts K = keyOf N V n) := by rw [hK]; rfl
  have la : klen N V n ≤ 1048576 := by have := klen_tot N V n; have := HA.out; omega
  rw [← hK]
  clear hK
  go_wp2_with fail
  refine wp_region_script (fun w' => Below w3.heap.size w3 w') [(true, 0), (true, 1), (true, 2), (true, 3), (true, 5), (true, 6), (true, 7), (false, 4), (false, 8), (true, 9), (true, 10)] [] (by kernel_rfl) (by kernel_rfl) (Below.refl _ _).drew ?_
  intro OPS hO
  clear hO
  simp only [scOps, List.getElem?_cons_succ, List.getElem?_cons_zero, Act.put, List.setIfInBounds_toArray, List.set_cons_zero, List.set_cons_succ]
  repeat (apply sc_take rfl; (case h => (intro wx hx; go_simp; try with_reducible rfl)); try simp only [Act.put, List.setIfInBounds_toArray, List.set_cons_zero, List.set_cons_succ])
  obtain ⟨ta, hta⟩ : ∃ ta : Option Addr, ta = (if n = k then some ⟨g, 0, none⟩ else some ⟨g, k * 2, none⟩) := ⟨_, rfl⟩
  have HTa : Hid (k < n → ta = some ⟨g, k * 2, none⟩) := fun q => by rw [hta, if_neg (by omega)]
  rw [← hta]
  clear hta
  refine sc_must ?_
  go_wp2_with (go_at_call 10; refine (key_any (some ⟨g, 0, none⟩) g 0 k n N V w3.drew (by omega) (Below.pairs (pairs_head P3.out hkn) (Below.refl _ _).drew) (Nat.le_trans (tot_mono N V k n hkn) HA.out)).mono ?_)
  rintro e w4 ⟨rfl, hb34⟩
  have hc4 : Below w3.heap.size w3 w4 := (Below.refl _ _).drew.trans hb34
  clear hb34
  obtain ⟨K1, hK1⟩ : ∃ K1, K1 = ByteArray.mk (keyOf N V k).toArray := ⟨_, rfl⟩
  have b1 : Hid (bts K1 = keyOf N V k) := by rw [hK1]; rfl
  have z1 : K1.size ≤ 1048576 := by
    rw [hK1, size_key, keyOf_len]
    have := klen_tot N V k
    have := tot_mono N V k n hkn
    have := HA.out
    omega
  rw [← hK1]
  clear hK1
  go_wp2_with fail
  refine onlyN_mk ⟨hc4, ?_⟩
  refine sc_must ?_
  have HT2 : Hid (tot (fun i => N (k + i)) (fun i => V (k + i)) (n - k) ≤ 1048576) := by
    have h1 := tot_tail N V k (n - k)
    rw [show k + (n - k) = n by omega] at h1
    have := HA.out
    show tot (fun i => N (k + i)) (fun i => V (k + i)) (n - k) ≤ 1048576
    omega
  go_wp2_with (go_at_call 10; refine (key_any ta g (k * 2) (n - k) (n - k) (fun i => N (k + i)) (fun i => V (k + i)) w4 (by omega) (pairs_tail (Below.pairs P3.out hc4) hkn ta HTa.out) HT2.out).mono ?_)
  rintro e w5 ⟨rfl, hb45⟩
  have hc5 : Below w3.heap.size w3 w5 := hc4.trans (hb45.mono hc4.size)
  clear hb45 hc4
  obtain ⟨K2, hK2⟩ : ∃ K2, K2 = ByteArray.mk (keyOf (fun i => N (k + i)) (fun i => V (k + i)) (n - k)).toArray := ⟨_, rfl⟩
  have b2 : Hid (bts K2 = keyOf (fun i => N (k + i)) (fun i => V (k + i)) (n - k)) := by rw [hK2]; rfl
  have z2 : K2.size ≤ 1048576 := by
    rw [hK2, size_key, keyOf_len]
    have := klen_tot (fun i => N (k + i)) (fun i => V (k + i)) (n - k)
    have := HT2.out
    omega
  rw [← hK2]
  clear hK2
  have hcut := cut_list hkn bK.out b1.out b2.out
  have hz12 : ¬ (9223372036854775807 < K1.size + K2.size) := by omega
  go_wp2_with fail
  refine onlyN_mk ⟨hc5, ?_⟩
  repeat (apply sc_take rfl; (case h => (intro wx hx; go_simp; try with_reducible rfl)); try simp only [Act.put, List.setIfInBounds_toArray, List.set_cons_zero, List.set_cons_succ])
  refine sc_nil ?_
  have hb5 : Below w.heap.size w w5 := hb3.trans (hc5.mono hb3.size)
  go_wp2_with fail
  go_at_call 11
  refine (keyLen_any a b off n c N V w5 hn1 (Below.pairs H.out hb5) HA.out).mono ?_
  rintro e w6 ⟨rfl, hb56⟩
  have hb6 : Below w.heap.size w w6 := hb5.trans (hb56.mono hb5.size)
  clear hcut hc5 hb3 P3 b1 b2 z1 z2 HT2 hz12 hb56 hb5 HTa
  rw [← zK]
  go_wp2_with fail
  go_at_call 12
  refine (anyFF_any a b off n c N V w6 hn1 (Below.pairs H.out hb6) HA.out).mono ?_
  rintro e w0 ⟨hw0, r, rfl, hr⟩
  rw [hw0]
  clear hw0 w0
  cases r with
  | true =>
    clear hr
    go_wp2_with fail
    go_ret
    exact ⟨rfl, hb6⟩
  | false =>
  have CA : Hid (Clean n N V) := hr.1 rfl
  clear hr
  have HP6 : Hid (PairsIn w6 a b off n N V) := Below.pairs H.out hb6
  go_wp2_with fail
  go_loop [7, 8, 9] (fun x y z => ∃ f p q : Nat, x = .int .i64 f ∧ y = .int .i64 p ∧ z = .int .i64 q ∧ At (fld N V) (2 * n) f p q) (fun _ _ z => K.size - (intOf z).toNat)
  case atStart => exact ⟨0, 0, 0, rfl, rfl, rfl, ⟨Nat.zero_le _, rfl, Nat.le_refl _, Nat.zero_le _, fun _ => Nat.zero_le _, fun h => rfl⟩⟩
  case round =>
    obtain ⟨f, p, q, rfl, rfl, rfl, hA⟩ := hrel
    have HA2 : Hid _ := hA
    clear hA
    have hSt := start_key N V n
    rw [← zK] at hSt
    by_cases hlt : q < K.size
    · have hfm : f < 2 * n := HA2.out.lt (by omega)
      have hinn := HA2.out.inn hfm
      have hqI : (q : Int) < (K.size : Int) := by omega
      by_cases hj : q < p + (fld N V f).length
      · obtain ⟨x, hx, hmem⟩ := HA2.out.inside hfm hj
        have hb := byte_at bK.out q hlt x hx
        have hne : ¬ ((K[q].toNat : Nat) : Int) = 255 := fun e => by
          refine clean_fld CA.out f hfm x hmem ?_
          rw [← hb]
          exact UInt8.toNat_inj.1 (by show K[q].toNat = 255; omega)
        have HN : Hid (At (fld N V) (2 * n) f p (q + 1)) := HA2.out.next hfm hj (by omega)
        clear hx hmem hb hj hinn hSt
        go_wp2
        go_round
        case rel => exact ⟨f, p, q + 1, rfl, rfl, by go_num, HN.out⟩
        case measure => simp [intOf]; omega
      · have hj2 : q = p + (fld N V f).length := by omega
        have hb := byte_at bK.out q hlt 255 (HA2.out.ends hfm hj2)
        have heq : ((K[q].toNat : Nat) : Int) = 255 := by rw [hb]; rfl
        have HN : Hid (At (fld N V) (2 * n) (f + 1) (q + 1) (q + 1)) := HA2.out.field hfm hj2
        have hf2 : (f : Int) < 2 * (n : Int) := by omega
        have hpq : p ≤ q := HA2.out.pq
        obtain ⟨j, hjf⟩ : ∃ j, j = f / 2 := ⟨_, rfl⟩
        have hjn : j < n := by omega
        have c0 := HP6.out.name (f / 2) (by omega)
        have c1 := HP6.out.val (f / 2) (by omega)
        obtain rfl := HP6.out.at_ (by omega)
        have ht : (f : Int).tdiv 2 = (j : Int) := by rw [Int.tdiv_eq_ediv_of_nonneg (by omega)]; omega
        have hj0 : (0 : Int) ≤ (j : Int) := by omega
        have hj3 : (j : Int) < (n : Int) := by omega
        have hpI : (p : Int) ≤ (q : Int) := by omega
        have hqI2 : (q : Int) ≤ (K.size : Int) := by omega
        have hp0 : (0 : Int) ≤ (p : Int) := by omega
        clear hb hj hinn hSt
        by_cases hpar : f % 2 = 1
        · have hr : (f : Int).tmod 2 = 1 := by rw [Int.tmod_eq_emod_of_nonneg (by omega)]; omega
          have hsl : ((K.extract p q).toList == (V (f / 2)).toList) = true := piece_list bK.out HA2.out hfm hj2 (by unfold fld; rw [if_neg (by omega)])
          clear hj2
          go_wp2
          go_round
          case rel => exact ⟨f + 1, q + 1, q + 1, by go_num, by go_num, by go_num, HN.out⟩
          case measure => simp [intOf]; omega
        · have hr : (f : Int).tmod 2 = 0 := by rw [Int.tmod_eq_emod_of_nonneg (by omega)]; omega
          have hsl : ((K.extract p q).toList == (N (f / 2)).toList) = true := piece_list bK.out HA2.out hfm hj2 (by unfold fld; rw [if_pos (by omega)])
          clear hj2
          go_wp2
          go_round
          case rel => exact ⟨f + 1, q + 1, q + 1, by go_num, by go_num, by go_num, HN.out⟩
          case measure => simp [intOf]; omega
    · have hqe : q = start (fld N V) (2 * n) := by have := HA2.out.qm; omega
      obtain ⟨e1, e2⟩ := HA2.out.done hqe
      have e3 : (p : Int) = (K.size : Int) := by omega
      have e4 : (f : Int) = 2 * (n : Int) := by omega
      clear hSt hqe
      go_wp2
      go_ret
      exact ⟨rfl, hb6⟩
end Go.Proofs.Qxb6608984a
