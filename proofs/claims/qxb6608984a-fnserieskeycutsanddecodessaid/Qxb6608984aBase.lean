import Derived.Test.Qxb6608984aRows
import Derived.WalkKit
import Derived.WalkSpells
import Derived.WalkLawsBesides
import Derived.BigQuiet
import Derived.Deep.QuietTactic
import Derived.Carry
namespace Go.Proofs.Qxb6608984a
open Go.RowKit
set_option linter.unusedSimpArgs false

/-- A fact that the walk's rules shall not see. -/
def Hid (p : Prop) : Prop := p
theorem Hid.out {p : Prop} (h : Hid p) : p := h

/-- A slice of labels. -/
structure PairsIn (w : World) (a : Option Addr) (b off n : Nat) (N V : Nat → ByteArray) : Prop where
  at_ : 0 < n → a = some ⟨b, off, none⟩
  name : ∀ j, j < n → w.cell? ⟨b, off + j * 2, none⟩ = some (.string (N j))
  val : ∀ j, j < n → w.cell? ⟨b, off + j * 2 + 1, none⟩ = some (.string (V j))

theorem Below.pairs {w w' : World} {a : Option Addr} {b off n : Nat} {N V : Nat → ByteArray} (h : PairsIn w a b off n N V) (hb : Below w.heap.size w w') : PairsIn w' a b off n N V :=
  ⟨h.at_, fun j hj => cell_later hb (h.name j hj), fun j hj => cell_later hb (h.val j hj)⟩

/-- What is known of the sizes of the strings that came in. -/
def Short (n : Nat) (N V : Nat → ByteArray) : Prop := ∀ j, j < n → (N j).size ≤ 9223372036854775807 ∧ (V j).size ≤ 9223372036854775807

theorem below_drewN {B : Nat} {a w : World} (h : Below B a w) (n : Nat) : Below B a (w.drewN n) := ⟨h.os, h.tape, h.output, h.size, h.block⟩

def tot (N V : Nat → ByteArray) : Nat → Nat
  | 0 => 0
  | k + 1 => tot N V k + 32 + (N k).size + (V k).size
def klen (N V : Nat → ByteArray) : Nat → Nat
  | 0 => 0
  | k + 1 => klen N V k + (N k).size + (V k).size + 2

theorem klen_tot (N V : Nat → ByteArray) : ∀ k, klen N V k + 30 * k ≤ tot N V k
  | 0 => by simp [klen, tot]
  | k + 1 => by have := klen_tot N V k; simp only [klen, tot]; omega
theorem tot_mono (N V : Nat → ByteArray) (k : Nat) : ∀ n, k ≤ n → tot N V k ≤ tot N V n
  | 0, h => by obtain rfl : k = 0 := by omega
               exact Nat.le_refl _
  | n + 1, h => by
    by_cases e : k = n + 1
    · subst e; exact Nat.le_refl _
    · have := tot_mono N V k n (by omega)
      simp only [tot]; omega

def Quiet (p : Prop) (w : World) (e : Ending) (w' : World) : Prop := (∃ r : Bool, e = .returned (.bool r) ∧ (r = true → p)) ∧ Below w.heap.size w w'

/-! ### 7: the bound -/
def BoolOnly (w : World) (e : Ending) (w' : World) : Prop := w' = w ∧ ∃ r : Bool, e = .returned (.bool r)
set_option maxHeartbeats 1000000 in
theorem bytes7 (a : Option Addr) (b off n c : Nat) (N V : Nat → ByteArray) (k : Int) (w : World) (hn : n ≤ 9223372036854775807) (h : PairsIn w a b off n N V) (hs : Short n N V) :
    Calls Try.prog 7 #[.slice a n c, .int .i64 k] w (BoolOnly w) := by
  have H : Hid _ := h
  have HS : Hid _ := hs
  clear h hs
  by_cases h2 : (n : Int) > 1048576
  · go_enter Try.func7, Try.ntmps7
    go_wp2
    go_ret
    exact ⟨rfl, _, rfl⟩
  go_enter Try.func7, Try.ntmps7
  go_wp2
  go_loop [5, 6] (fun t i => ∃ (k : Nat) (x : Int), k ≤ n ∧ i = .int .i64 k ∧ t = .int .i64 x ∧ 0 ≤ x ∧ x ≤ 1048576) (fun _ i => n - (intOf i).toNat)
  case atStart => exact ⟨0, _, Nat.zero_le _, rfl, rfl, by omega, by omega⟩
  case round =>
    obtain ⟨k, x, hk, rfl, rfl, hx0, hx⟩ := hrel
    by_cases hlt : k < n
    · obtain rfl := H.out.at_ (by omega)
      have c0 := H.out.name k hlt
      have c1 := H.out.val k hlt
      have s0 := (HS.out k hlt).1
      have s1 := (HS.out k hlt).2
      go_wp2
      all_goals first | (go_ret; exact ⟨rfl, _, rfl⟩) | skip
      go_round
      case rel => exact ⟨k + 1, _, by omega, by go_num, rfl, by omega, by omega⟩
      case measure => simp [intOf]; omega
    · go_wp2
      go_ret
      exact ⟨rfl, _, rfl⟩

/-! ### 8: zzSize -/
def SizePost (N V : Nat → ByteArray) (n : Nat) (w : World) (e : Ending) (w' : World) : Prop :=
  (∃ t : Int, e = .returned (.int .i64 t) ∧ 0 ≤ t ∧ t ≤ 1048577 ∧ (t ≤ 1048576 → n ≤ 65536 ∧ t = tot N V n)) ∧ Below w.heap.size w w'
theorem sizePost_big {N V : Nat → ByteArray} {n : Nat} {w w' : World} (h : Below w.heap.size w w') : SizePost N V n w (.returned (.int .i64 1048577)) w' := ⟨⟨_, rfl, by omega, by omega, fun h => by omega⟩, h⟩

set_option maxHeartbeats 2000000 in
theorem size_any (a : Option Addr) (b off n c : Nat) (N V : Nat → ByteArray) (w : World) (hn : n ≤ 9223372036854775807) (h : PairsIn w a b off n N V) (hs : Short n N V) :
    Calls Try.prog 8 #[.slice a n c] w (SizePost N V n w) := by
  have H : Hid _ := h
  have HS : Hid _ := hs
  clear h hs
  by_cases h2 : (n : Int) > 65536
  · go_enter Try.func8, Try.ntmps8
    go_wp2
    go_ret
    exact sizePost_big (Below.refl _ _)
  go_enter Try.func8, Try.ntmps8
  go_wp2
  go_loopw [3, 4] (fun t i wr => ∃ (k : Nat), k ≤ n ∧ i = .int .i64 k ∧ t = .int .i64 (tot N V k : Nat) ∧ tot N V k ≤ 1048576 ∧ Below w.heap.size w wr) (fun _ i _ => n - (intOf i).toNat)
  case atStart => exact ⟨0, Nat.zero_le _, rfl, rfl, by simp [tot], Below.refl _ _⟩
  case round =>
    obtain ⟨k, hk, rfl, rfl, hx, hbel⟩ := hrel
    by_cases hlt : k < n
    · obtain rfl := H.out.at_ (by omega)
      have P := Below.pairs H.out hbel
      have c0 := P.name k hlt
      have c1 := P.val k hlt
      have s0 := (HS.out k hlt).1
      have s1 := (HS.out k hlt).2
      have hk0 : (0 : Int) ≤ (k : Int) := by omega
      have hk2 : (k : Int) < (n : Int) := by omega
      have HT : Hid (tot N V (k + 1) = tot N V k + 32 + (N k).size + (V k).size) := rfl
      clear P
      generalize tot N V k = T at *
      by_cases b0 : ((N k).size : Int) > 1048576
      · go_wp2
        go_ret
        exact sizePost_big hbel
      by_cases b1 : ((V k).size : Int) > 1048576
      · go_wp2
        go_ret
        exact sizePost_big hbel
      go_wp2
      go_quiet (fail)
      go_wp2
      · go_ret
        exact sizePost_big (below_drewN hbel _)
      · go_roundw
        case rel => exact ⟨k + 1, by omega, by go_num, by rw [HT.out]; go_num, by rw [HT.out]; omega, below_drewN hbel _⟩
        case measure => simp [intOf]; omega
    · go_wp2
      go_ret
      obtain rfl : k = n := by omega
      exact ⟨⟨_, rfl, by omega, by omega, fun _ => ⟨by omega, rfl⟩⟩, hbel⟩
end Go.Proofs.Qxb6608984a
