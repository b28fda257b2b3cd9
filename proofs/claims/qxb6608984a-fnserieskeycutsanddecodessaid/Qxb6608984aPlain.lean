import Derived.Test.Qxb6608984aBase
namespace Go.Proofs.Qxb6608984a

/-! ### The encoding, in plain lists -/
/-- The bytes of a string. -/
def bts (s : ByteArray) : List UInt8 := s.data.toList
theorem bts_len (s : ByteArray) : (bts s).length = s.size := by simp [bts]

/-- Field i: names and values in turn. -/
def fld (N V : Nat → ByteArray) (i : Nat) : List UInt8 := if i % 2 = 0 then bts (N (i / 2)) else bts (V (i / 2))

/-- The first k fields, each ended by 255. -/
def enc (L : Nat → List UInt8) : Nat → List UInt8
  | 0 => []
  | k + 1 => enc L k ++ (L k ++ [255])

theorem enc_shift (L : Nat → List UInt8) (k : Nat) : ∀ m, enc L (k + m) = enc L k ++ enc (fun i => L (k + i)) m
  | 0 => by simp [enc]
  | m + 1 => by rw [Nat.add_succ, enc, enc_shift L k m, enc, List.append_assoc]

theorem enc_congr {L M : Nat → List UInt8} : ∀ k, (∀ i, i < k → L i = M i) → enc L k = enc M k
  | 0, _ => rfl
  | k + 1, h => by rw [enc, enc, enc_congr k (fun i hi => h i (by omega)), h k (by omega)]

/-- Where field k begins. -/
def start (L : Nat → List UInt8) : Nat → Nat
  | 0 => 0
  | k + 1 => start L k + (L k).length + 1
theorem enc_len (L : Nat → List UInt8) : ∀ k, (enc L k).length = start L k
  | 0 => rfl
  | k + 1 => by rw [enc, List.length_append, enc_len L k, List.length_append]; simp [start]; omega
theorem start_mono (L : Nat → List UInt8) (k : Nat) : ∀ m, k ≤ m → start L k ≤ start L m
  | 0, h => by obtain rfl : k = 0 := by omega
               exact Nat.le_refl _
  | m + 1, h => by
    by_cases e : k = m + 1
    · subst e; exact Nat.le_refl _
    · have := start_mono L k m (by omega)
      simp only [start]; omega

/-- The byte at place j of field f. -/
theorem enc_get (L : Nat → List UInt8) (m f j : Nat) (hf : f < m) (hj : j ≤ (L f).length) : (enc L m)[start L f + j]? = (L f ++ [255])[j]? := by
  have h1 : m = (f + 1) + (m - (f + 1)) := by omega
  rw [h1, enc_shift, enc]
  have h2 : (enc L f ++ (L f ++ [255])).length = start L f + (L f).length + 1 := by rw [List.length_append, enc_len, List.length_append]; simp; omega
  rw [List.getElem?_append_left (by rw [h2]; omega), List.getElem?_append_right (by rw [enc_len]; omega), enc_len]
  congr 1
  omega

/-- The piece of field f. -/
theorem enc_piece (L : Nat → List UInt8) (m f : Nat) (hf : f < m) : ((enc L m).drop (start L f)).take (L f).length = L f := by
  refine List.ext_getElem? fun j => ?_
  rw [List.getElem?_take]
  by_cases hj : j < (L f).length
  · rw [if_pos hj, List.getElem?_drop, enc_get L m f j hf (by omega), List.getElem?_append_left hj]
  · rw [if_neg hj, List.getElem?_eq_none (by omega)]

def NoFF (l : List UInt8) : Prop := ∀ b ∈ l, b ≠ 255

theorem cut_inj : ∀ (a b r s : List UInt8), NoFF a → NoFF b → a ++ 255 :: r = b ++ 255 :: s → a = b ∧ r = s
  | [], [], _, _, _, _, h => by simpa using h
  | [], y :: b, _, _, _, hb, h => by
    simp at h
    exact absurd h.1.symm (hb y (by simp))
  | x :: a, [], _, _, ha, _, h => by
    simp at h
    exact absurd h.1 (ha x (by simp))
  | x :: a, y :: b, r, s, ha, hb, h => by
    simp at h
    obtain ⟨e1, e2⟩ := cut_inj a b r s (fun z hz => ha z (by simp [hz])) (fun z hz => hb z (by simp [hz])) h.2
    exact ⟨by rw [h.1, e1], e2⟩

theorem enc_head (L : Nat → List UInt8) (k : Nat) : enc L (k + 1) = L 0 ++ 255 :: enc (fun i => L (1 + i)) k := by
  rw [Nat.add_comm, enc_shift]
  simp [enc]

/-- One encoding, one row of fields. -/
theorem enc_inj : ∀ (k m : Nat) (L M : Nat → List UInt8), (∀ i, i < k → NoFF (L i)) → (∀ i, i < m → NoFF (M i)) → enc L k = enc M m → k = m ∧ ∀ i, i < k → L i = M i
  | 0, 0, _, _, _, _, _ => ⟨rfl, fun i hi => by omega⟩
  | 0, m + 1, L, M, _, _, h => by rw [enc_head] at h; simp [enc] at h
  | k + 1, 0, L, M, _, _, h => by rw [enc_head] at h; simp [enc] at h
  | k + 1, m + 1, L, M, hL, hM, h => by
    rw [enc_head, enc_head] at h
    obtain ⟨e1, e2⟩ := cut_inj _ _ _ _ (hL 0 (by omega)) (hM 0 (by omega)) h
    obtain ⟨g1, g2⟩ := enc_inj k m _ _ (fun i hi => hL (1 + i) (by omega)) (fun i hi => hM (1 + i) (by omega)) e2
    refine ⟨by omega, fun i hi => ?_⟩
    cases i with
    | zero => exact e1
    | succ i => have := g2 i (by omega); rwa [Nat.add_comm 1 i] at this

theorem fld_even (N V : Nat → ByteArray) (j : Nat) : fld N V (2 * j) = bts (N j) := by
  unfold fld
  rw [if_pos (by omega), Nat.mul_div_cancel_left j (by omega)]
theorem fld_odd (N V : Nat → ByteArray) (j : Nat) : fld N V (2 * j + 1) = bts (V j) := by
  unfold fld
  rw [if_neg (by omega), show (2 * j + 1) / 2 = j by omega]

/-- The key of n labels. -/
def keyOf (N V : Nat → ByteArray) (n : Nat) : List UInt8 := enc (fld N V) (2 * n)
theorem keyOf_succ (N V : Nat → ByteArray) (k : Nat) : keyOf N V (k + 1) = ((keyOf N V k ++ bts (N k)) ++ [255] ++ bts (V k)) ++ [255] := by
  unfold keyOf
  rw [show 2 * (k + 1) = 2 * k + 1 + 1 by omega, enc, enc, fld_even, fld_odd]
  simp
theorem keyOf_len (N V : Nat → ByteArray) : ∀ k, (keyOf N V k).length = klen N V k
  | 0 => rfl
  | k + 1 => by rw [keyOf_succ]; simp [keyOf_len N V k, bts_len, klen]; omega
theorem keyOf_cut (N V : Nat → ByteArray) (k m : Nat) : keyOf N V (k + m) = keyOf N V k ++ keyOf (fun i => N (k + i)) (fun i => V (k + i)) m := by
  unfold keyOf
  rw [Nat.mul_add, enc_shift]
  congr 1
  refine enc_congr _ fun i _ => ?_
  simp only [fld, show (2 * k + i) % 2 = i % 2 by omega, show (2 * k + i) / 2 = k + i / 2 by omega]

/-- No name and no value holds a 255. -/
def Clean (n : Nat) (N V : Nat → ByteArray) : Prop := ∀ j, j < n → NoFF (bts (N j)) ∧ NoFF (bts (V j))
theorem clean_fld {n : Nat} {N V : Nat → ByteArray} (h : Clean n N V) : ∀ i, i < 2 * n → NoFF (fld N V i) := fun i hi => by
  unfold fld
  split
  · exact (h (i / 2) (by omega)).1
  · exact (h (i / 2) (by omega)).2

theorem bts_inj {s t : ByteArray} (h : bts s = bts t) : s = t := by
  cases s; cases t
  simp only [bts] at h
  congr 1
  exact Array.toList_inj.1 h

theorem keyOf_inj {n m : Nat} {N V N' V' : Nat → ByteArray} (h : Clean n N V) (h' : Clean m N' V') (e : keyOf N V n = keyOf N' V' m) : n = m ∧ ∀ j, j < n → N j = N' j ∧ V j = V' j := by
  obtain ⟨e1, e2⟩ := enc_inj _ _ _ _ (clean_fld h) (clean_fld h') e
  refine ⟨by omega, fun j hj => ⟨bts_inj ?_, bts_inj ?_⟩⟩
  · have := e2 (2 * j) (by omega); rwa [fld_even, fld_even] at this
  · have := e2 (2 * j + 1) (by omega); rwa [fld_odd, fld_odd] at this
theorem keyOf_congr {n : Nat} {N V N' V' : Nat → ByteArray} (h : ∀ j, j < n → N j = N' j ∧ V j = V' j) : keyOf N V n = keyOf N' V' n :=
  enc_congr _ fun i hi => by
    unfold fld
    rw [(h (i / 2) (by omega)).1, (h (i / 2) (by omega)).2]
end Go.Proofs.Qxb6608984a
