import Derived.Test.Qxb6608984aKey
namespace Go.Proofs.Qxb6608984a
open Go.RowKit
set_option linter.unusedSimpArgs false

/-! ### 13: the bound of the second law -/
set_option maxRecDepth 4000 in
set_option maxHeartbeats 2000000 in
theorem bytes13 (a : Option Addr) (b off n c : Nat) (N V : Nat → ByteArray) (a2 : Option Addr) (b2 off2 m c2 : Nat) (N2 V2 : Nat → ByteArray) (w : World) (hn : n ≤ 9223372036854775807) (hm : m ≤ 9223372036854775807) (h : PairsIn w a b off n N V) (hs : Short n N V) (h2 : PairsIn w a2 b2 off2 m N2 V2) (hs2 : Short m N2 V2) :
    Calls Try.prog 13 #[.slice a n c, .slice a2 m c2] w (BoolOnly w) := by
  have H : Hid _ := h
  have HS : Hid _ := hs
  have H2 : Hid _ := h2
  have HS2 : Hid _ := hs2
  clear h hs h2 hs2
  by_cases g1 : (n : Int) > 1048576
  · go_enter Try.func13, Try.ntmps13
    go_wp2
    go_ret
    exact ⟨rfl, _, rfl⟩
  go_enter Try.func13, Try.ntmps13
  go_wp2
  go_loop [5, 6] (fun t i => ∃ (k : Nat) (x : Int), k ≤ n ∧ i = .int .i64 k ∧ t = .int .i64 x ∧ 0 ≤ x ∧ x ≤ 1048576) (fun _ i => n - (intOf i).toNat)
  case atStart => exact ⟨0, _, Nat.zero_le _, rfl, rfl, by omega, by omega⟩
  case round =>
    obtain ⟨k, x, hk, rfl, rfl, hx0, hx⟩ := hrel
    by_cases hlt : k < n
    · obtain rfl := H.out.at_ (by omega)
      have c0 := H.out.name k hlt
      have c1 := H.out.val k hlt
      have s0 := (HS.out k hlt).1
      have s1 := (HS.out k hlt).2
      go_wp2
      all_goals first | (go_ret; exact ⟨rfl, _, rfl⟩) | skip
      go_round
      case rel => exact ⟨k + 1, _, by omega, by go_num, rfl, by omega, by omega⟩
      case measure => simp [intOf]; omega
    · clear H HS
      by_cases g2 : (m : Int) > 1048576
      · go_wp2
        go_ret
        exact ⟨rfl, _, rfl⟩
      by_cases g3 : x + m > 1048576
      · go_wp2
        go_ret
        exact ⟨rfl, _, rfl⟩
      go_wp2
      go_loop [5, 7] (fun t i => ∃ (k : Nat) (x : Int), k ≤ m ∧ i = .int .i64 k ∧ t = .int .i64 x ∧ 0 ≤ x ∧ x ≤ 1048576) (fun _ i => m - (intOf i).toNat)
      case atStart => exact ⟨0, _, Nat.zero_le _, rfl, rfl, by omega, by omega⟩
      case round =>
        obtain ⟨j, y, hj, rfl, rfl, hy0, hy⟩ := hrel
        by_cases hlt2 : j < m
        · obtain rfl := H2.out.at_ (by omega)
          have c0 := H2.out.name j hlt2
          have c1 := H2.out.val j hlt2
          have s0 := (HS2.out j hlt2).1
          have s1 := (HS2.out j hlt2).2
          go_wp2
          all_goals first | (go_ret; exact ⟨rfl, _, rfl⟩) | skip
          go_round
          case rel => exact ⟨j + 1, _, by omega, by go_num, rfl, by omega, by omega⟩
          case measure => simp [intOf]; omega
        · go_wp2
          go_ret
          exact ⟨rfl, _, rfl⟩

/-! ### 14: zzSameLabels -/
theorem ne_list {s t : ByteArray} (h : ¬ s = t) : (s.toList == t.toList) = false := by
  refine beq_eq_false_iff_ne.2 fun q => h (bts_inj ?_)
  rw [ByteArray.toList_eq, ByteArray.toList_eq] at q
  exact q

def AllSame (n : Nat) (N V N2 V2 : Nat → ByteArray) : Prop := ∀ j, j < n → N j = N2 j ∧ V j = V2 j
def SamePost (n m : Nat) (N V N2 V2 : Nat → ByteArray) (w : World) (e : Ending) (w' : World) : Prop :=
  (∃ r : Bool, e = .returned (.bool r) ∧ (r = true ↔ n = m ∧ AllSame n N V N2 V2)) ∧ Below w.heap.size w w'

set_option maxHeartbeats 4000000 in
theorem same_any (a : Option Addr) (b off n c : Nat) (N V : Nat → ByteArray) (a2 : Option Addr) (b2 off2 m c2 : Nat) (N2 V2 : Nat → ByteArray) (w : World) (hn : n ≤ 65536) (hm : m ≤ 65536) (h : PairsIn w a b off n N V) (h2 : PairsIn w a2 b2 off2 m N2 V2) :
    Calls Try.prog 14 #[.slice a n c, .slice a2 m c2] w (SamePost n m N V N2 V2 w) := by
  have H : Hid _ := h
  have H2 : Hid _ := h2
  clear h h2
  by_cases hnm : (n : Int) = (m : Int)
  · obtain rfl : n = m := by omega
    clear hnm
    go_enter Try.func14, Try.ntmps14
    go_wp2
    go_loopw [5] (fun i wr => ∃ (k : Nat), k ≤ n ∧ i = .int .i64 k ∧ AllSame k N V N2 V2 ∧ Below w.heap.size w wr) (fun i _ => n - (intOf i).toNat)
    case atStart => exact ⟨0, Nat.zero_le _, rfl, fun j hj => by omega, Below.refl _ _⟩
    case round =>
      obtain ⟨k, hk, rfl, hA, hbel⟩ := hrel
      have HA : Hid _ := hA
      clear hA
      by_cases hlt : k < n
      · obtain rfl := H.out.at_ (by omega)
        obtain rfl := H2.out.at_ (by omega)
        have P := Below.pairs H.out hbel
        have P2 := Below.pairs H2.out hbel
        have c0 := P.name k hlt
        have c1 := P.val k hlt
        have d0 := P2.name k hlt
        have d1 := P2.val k hlt
        have hk0 : (0 : Int) ≤ (k : Int) := by omega
        have hk2 : (k : Int) < (n : Int) := by omega
        clear P P2
        by_cases e0 : N k = N2 k
        · have E0 : Hid _ := e0
          rw [← e0] at d0
          clear e0
          by_cases e1 : V k = V2 k
          · have E1 : Hid _ := e1
            rw [← e1] at d1
            clear e1
            go_wp2
            go_quiet (fail)
            go_wp2
            go_roundw
            case rel =>
              refine ⟨k + 1, by omega, by go_num, fun j hj => ?_, below_drewN hbel _⟩
              by_cases e : j = k
              · subst e; exact ⟨E0.out, E1.out⟩
              · exact HA.out j (by omega)
            case measure => simp [intOf]; omega
          · have E1 : Hid (¬ V k = V2 k) := e1
            have f1 := ne_list e1
            go_wp2
            go_quiet (fail)
            go_wp2
            go_ret
            exact ⟨⟨false, rfl, ⟨fun h => (by cases h), fun h => absurd (h.2 k hlt).2 E1.out⟩⟩, below_drewN hbel _⟩
        · have E0 : Hid (¬ N k = N2 k) := e0
          have f0 := ne_list e0
          go_wp2
          go_quiet (fail)
          go_wp2
          go_ret
          exact ⟨⟨false, rfl, ⟨fun h => (by cases h), fun h => absurd (h.2 k hlt).1 E0.out⟩⟩, below_drewN hbel _⟩
      · go_wp2
        go_ret
        obtain rfl : k = n := by omega
        exact ⟨⟨true, rfl, ⟨fun _ => ⟨rfl, HA.out⟩, fun _ => rfl⟩⟩, hbel⟩
  · have HNM : Hid (¬ n = m) := fun q => hnm (by rw [q])
    go_enter Try.func14, Try.ntmps14
    go_wp2
    go_ret
    exact ⟨⟨false, rfl, ⟨fun h => (by cases h), fun h => absurd h.1 HNM.out⟩⟩, Below.refl _ _⟩
end Go.Proofs.Qxb6608984a
