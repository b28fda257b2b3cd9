import Derived.Test.Qxb6615539aFmtIdx
namespace Go.Proofs.Qxb6615539aFmt
open Go.RowKit

/-! ### The order of tags by one number -/
def bval : List UInt8 → Nat
  | [] => 0
  | a :: xs => a.toNat * 256 ^ xs.length + bval xs

theorem bval_lt : ∀ xs : List UInt8, bval xs < 256 ^ xs.length
  | [] => by simp [bval]
  | a :: xs => by
    have h := bval_lt xs
    have ha : a.toNat ≤ 255 := by have := UInt8.toNat_lt a; omega
    have := Nat.mul_le_mul_right (256 ^ xs.length) ha
    simp only [bval, List.length_cons, Nat.pow_succ]
    omega

theorem less_bval : ∀ xs ys : List UInt8, xs.length = ys.length → (bytesLess xs ys = true ↔ bval xs < bval ys)
  | [], [], _ => by simp [bytesLess, bval]
  | [], _ :: _, h => by simp at h
  | _ :: _, [], h => by simp at h
  | a :: xs, b :: ys, h => by
    have hl : xs.length = ys.length := by simpa using h
    have ih := less_bval xs ys hl
    have h1 := bval_lt xs
    have h2 := bval_lt ys
    simp only [bytesLess, bval]
    rw [hl] at h1 ⊢
    by_cases e : a = b
    · subst e
      rw [if_pos rfl, ih]
      omega
    · rw [if_neg e, decide_eq_true_iff, UInt8.lt_iff_toNat_lt]
      have hne : a.toNat ≠ b.toNat := fun q => e (UInt8.toNat_inj.1 q)
      constructor
      · intro hlt
        have := Nat.mul_le_mul_right (256 ^ ys.length) (show a.toNat + 1 ≤ b.toNat by omega)
        rw [Nat.add_mul, Nat.one_mul] at this
        omega
      · intro hlt
        refine Classical.byContradiction fun hn => ?_
        have := Nat.mul_le_mul_right (256 ^ ys.length) (show b.toNat + 1 ≤ a.toNat by omega)
        rw [Nat.add_mul, Nat.one_mul] at this
        omega

theorem bval_inj : ∀ xs ys : List UInt8, xs.length = ys.length → bval xs = bval ys → xs = ys
  | [], [], _, _ => rfl
  | [], _ :: _, h, _ => by simp at h
  | _ :: _, [], h, _ => by simp at h
  | a :: xs, b :: ys, h, e => by
    have hl : xs.length = ys.length := by simpa using h
    have h1 := bval_lt xs
    have h2 := bval_lt ys
    simp only [bval] at e
    rw [hl] at e h1
    have hab : a.toNat = b.toNat := by
      refine Classical.byContradiction fun hn => ?_
      rcases Nat.lt_or_gt_of_ne hn with hlt | hlt
      · have := Nat.mul_le_mul_right (256 ^ ys.length) (show a.toNat + 1 ≤ b.toNat by omega)
        rw [Nat.add_mul, Nat.one_mul] at this
        omega
      · have := Nat.mul_le_mul_right (256 ^ ys.length) (show b.toNat + 1 ≤ a.toNat by omega)
        rw [Nat.add_mul, Nat.one_mul] at this
        omega
    rw [hab] at e
    rw [UInt8.toNat_inj.1 hab, bval_inj xs ys hl (by omega)]

theorem bval16 (u : Id16) : (bval u.l : Int) < 340282366920938463463374607431768211456 := by
  have := bval_lt u.l
  rw [u.len] at this
  have e : (256 : Nat) ^ 16 = 340282366920938463463374607431768211456 := by decide
  rw [e] at this
  omega

def rk (r : Rep) : Int := r.tn * 340282366920938463463374607431768211456 + bval r.tw.l

theorem repLess_rk (a b : Rep) : repLess a b = true ↔ rk a < rk b := by
  have h1 := bval16 a.tw
  have h2 := bval16 b.tw
  have h := less_bval a.tw.l b.tw.l (by rw [a.tw.len, b.tw.len])
  unfold repLess tagLess rk
  by_cases e : a.tn = b.tn
  · rw [if_pos e, h, e]; omega
  · rw [if_neg e, decide_eq_true_iff]; omega

theorem repEq_rk (a b : Rep) : repEq a b = true ↔ rk a = rk b := by
  have h1 := bval16 a.tw
  have h2 := bval16 b.tw
  have hi := bval_inj a.tw.l b.tw.l (by rw [a.tw.len, b.tw.len])
  simp only [repEq, tagEq, Bool.and_eq_true, beq_iff_eq]
  unfold rk
  constructor
  · rintro ⟨e1, e2⟩; rw [e1, e2]
  · intro e
    have e1 : a.tn = b.tn := by omega
    exact ⟨e1, hi (by omega)⟩

/-- The first of the highest among 0 .. k. -/
structure FirstMax (R : Nat → Rep) (k m : Nat) : Prop where
  le : m ≤ k
  top : ∀ j, j ≤ k → rk (R j) ≤ rk (R m)
  first : ∀ j, j < m → rk (R j) < rk (R m)

theorem hi_first (R : Nat → Rep) : ∀ k, FirstMax R k (hi R k)
  | 0 => ⟨Nat.le_refl _, fun j hj => by obtain rfl : j = 0 := by omega
                                        exact Int.le_refl _, fun j hj => by simp [hi] at hj⟩
  | k + 1 => by
    have ih := hi_first R k
    rw [hi_less R (k + 1) (by omega), Nat.add_sub_cancel]
    by_cases h : repLess (R (hi R k)) (R (k + 1)) = true
    · rw [if_pos h]
      rw [repLess_rk] at h
      refine ⟨Nat.le_refl _, fun j hj => ?_, fun j hj => ?_⟩
      · by_cases e : j = k + 1
        · subst e; exact Int.le_refl _
        · have := ih.top j (by omega); omega
      · have := ih.top j (by omega); omega
    · rw [if_neg h]
      rw [repLess_rk] at h
      refine ⟨by have := ih.le; omega, fun j hj => ?_, ih.first⟩
      by_cases e : j = k + 1
      · subst e; omega
      · exact ih.top j (by omega)

theorem hi_unique {R : Nat → Rep} {k m : Nat} (h : FirstMax R k m) : hi R k = m := by
  have g := hi_first R k
  rcases Nat.lt_trichotomy (hi R k) m with hl | he | hl
  · have h1 := h.first _ hl
    have h2 := g.top m h.le
    omega
  · exact he
  · have h1 := g.first _ hl
    have h2 := h.top _ g.le
    omega

/-- x put in at q. -/
def ins (R : Nat → Rep) (x : Rep) (q : Nat) (i : Nat) : Rep := if i < q then R i else if i = q then x else R (i - 1)

section
variable {R : Nat → Rep} {x : Rep} {q n J : Nat}
theorem ins_lt {i : Nat} (h : i < q) : ins R x q i = R i := by simp [ins, h]
theorem ins_at : ins R x q q = x := by simp [ins]
theorem ins_gt {i : Nat} (h : q < i) : ins R x q i = R (i - 1) := by
  unfold ins; rw [if_neg (by omega), if_neg (by omega)]

/-- Every one of the new row is x or one of the old. -/
theorem ins_cases (i : Nat) : (i < q ∧ ins R x q i = R i) ∨ (i = q ∧ ins R x q i = x) ∨ (q < i ∧ ins R x q i = R (i - 1)) := by
  rcases Nat.lt_trichotomy i q with h | h | h
  · exact .inl ⟨h, ins_lt h⟩
  · subst h; exact .inr (.inl ⟨rfl, ins_at⟩)
  · exact .inr (.inr ⟨h, ins_gt h⟩)

theorem ins_x (hn : 0 < n) (hq : q ≤ n) (hJ : FirstMax R (n - 1) J) (h : rk (R J) < rk x ∨ (rk (R J) = rk x ∧ q ≤ J)) : ins R x q (hi (ins R x q) n) = x := by
  have : hi (ins R x q) n = q := by
    refine hi_unique ⟨hq, fun j hj => ?_, fun j hj => ?_⟩
    · rw [ins_at]
      rcases ins_cases (R := R) (x := x) (q := q) j with ⟨h1, e⟩ | ⟨_, e⟩ | ⟨h1, e⟩ <;> rw [e]
      · have := hJ.top j (by omega); omega
      · exact Int.le_refl _
      · have := hJ.top (j - 1) (by omega); omega
    · rw [ins_at, ins_lt hj]
      rcases h with h | ⟨h, h2⟩
      · have := hJ.top j (by omega); omega
      · have := hJ.first j (by omega); omega
  rw [this, ins_at]

theorem ins_h (hn : 0 < n) (hq : q ≤ n) (hJ : FirstMax R (n - 1) J) (h1 : ¬ rk (R J) < rk x) (h2 : ¬ (rk (R J) = rk x ∧ q ≤ J)) : ins R x q (hi (ins R x q) n) = R J := by
  have hJn := hJ.le
  by_cases hJq : J < q
  · have : hi (ins R x q) n = J := by
      refine hi_unique ⟨by omega, fun j hj => ?_, fun j hj => ?_⟩
      · rw [ins_lt hJq]
        rcases ins_cases (R := R) (x := x) (q := q) j with ⟨g1, e⟩ | ⟨_, e⟩ | ⟨g1, e⟩ <;> rw [e]
        · exact hJ.top j (by omega)
        · omega
        · exact hJ.top (j - 1) (by omega)
      · rw [ins_lt hJq, ins_lt (by omega)]
        exact hJ.first j hj
    rw [this, ins_lt hJq]
  · have hlt : rk x < rk (R J) := by omega
    have : hi (ins R x q) n = J + 1 := by
      refine hi_unique ⟨by omega, fun j hj => ?_, fun j hj => ?_⟩
      · rw [ins_gt (show q < J + 1 by omega), Nat.add_sub_cancel]
        rcases ins_cases (R := R) (x := x) (q := q) j with ⟨g1, e⟩ | ⟨_, e⟩ | ⟨g1, e⟩ <;> rw [e]
        · exact hJ.top j (by omega)
        · omega
        · exact hJ.top (j - 1) (by omega)
      · rw [ins_gt (show q < J + 1 by omega), Nat.add_sub_cancel]
        rcases ins_cases (R := R) (x := x) (q := q) j with ⟨g1, e⟩ | ⟨_, e⟩ | ⟨g1, e⟩ <;> rw [e]
        · exact hJ.first j (by omega)
        · exact hlt
        · exact hJ.first (j - 1) (by omega)
    rw [this, ins_gt (show q < J + 1 by omega), Nat.add_sub_cancel]
end
end Go.Proofs.Qxb6615539aFmt
