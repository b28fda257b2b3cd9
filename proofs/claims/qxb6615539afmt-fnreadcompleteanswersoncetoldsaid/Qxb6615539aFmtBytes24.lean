import Derived.Test.Qxb6615539aFmtBytes
namespace Go.Proofs.Qxb6615539aFmt
open Go.RowKit
open Extern.Stop (cell)
set_option linter.unusedSimpArgs false

/-! ### 24: the bound of AnswersOnce -/
set_option maxRecDepth 8000 in
set_option maxHeartbeats 4000000 in
theorem bytes24 (key : ByteArray) (mode : Int) (a : Option Addr) (b off n c : Nat) (R : Nat → Rep) (a2 : Option Addr) (b2 off2 n2 c2 : Nat) (R2 : Nat → Rep) (w : World) (hkey : key.size ≤ 9223372036854775807) (hn : n ≤ 9223372036854775807) (hn2 : n2 ≤ 9223372036854775807)
    (h : RowIn w a b off n R) (hok : ∀ j, j < n → RepOk (R j)) (h2 : RowIn w a2 b2 off2 n2 R2) (hok2 : ∀ j, j < n2 → RepOk (R2 j)) :
    Calls Tryf.prog 24 #[.string key, .int .u8 mode, .slice a n c, .slice a2 n2 c2] w (BytesPost (Small n R ∧ Small n2 R2) w) := by
  have H : Hid (RowIn w a b off n R) := h
  have HO : Hid (∀ j, j < n → RepOk (R j)) := hok
  have H2 : Hid (RowIn w a2 b2 off2 n2 R2) := h2
  have HO2 : Hid (∀ j, j < n2 → RepOk (R2 j)) := hok2
  clear h hok h2 hok2
  by_cases h1 : (key.size : Int) > 1048576
  · go_enter Tryf.func24, Tryf.ntmps24
    go_wp2
    go_ret
    exact bytesPost_false
  by_cases h2 : (n : Int) > 1048576
  · go_enter Tryf.func24, Tryf.ntmps24
    go_wp2
    go_ret
    exact bytesPost_false
  by_cases h3 : (key.size : Int) + n > 1048576
  · go_enter Tryf.func24, Tryf.ntmps24
    go_wp2
    go_ret
    exact bytesPost_false
  go_enter Tryf.func24, Tryf.ntmps24
  go_wp2
  go_loop [9, 10] (fun t i => ∃ (k : Nat) (x : Int), k ≤ n ∧ i = .int .i64 k ∧ t = .int .i64 x ∧ 0 ≤ x ∧ x ≤ 1048576 ∧ Below20 k R) (fun _ i => n - (intOf i).toNat)
  case atStart => exact ⟨0, _, Nat.zero_le _, rfl, rfl, by omega, by omega, fun j hj => by omega⟩
  case round =>
    obtain ⟨k, x, hk, rfl, rfl, hx0, hx, hB⟩ := hrel
    have HB : Hid (Below20 k R) := hB
    clear hB
    by_cases hlt : k < n
    · obtain ⟨rfl, hc2, a', m, c', hc20, hm⟩ := row_look H.out hlt
      have hok := HO.out k hlt
      have hk1 := hok.1
      have hm1 : m ≤ 9223372036854775807 := by
        rw [hm]; unfold vlen
        cases hq : (R k).val with
        | none => simp
        | some bs => exact hok.2 bs hq
      have HM : Hid (m = vlen (R k)) := hm
      clear hm hok
      go_wp2
      all_goals first | (go_ret; exact bytesPost_false) | skip
      go_round
      case rel => exact ⟨k + 1, _, by omega, by go_num, rfl, by omega, by omega, below20_succ HB.out (by rw [← HM.out]; omega)⟩
      case measure => simp [intOf]; omega
    · have HS : Hid (Small n R) := ⟨by omega, fun j hj => HB.out j (by omega)⟩
      clear HB h1 h2 h3 H HO
      by_cases h4 : (n2 : Int) > 1048576
      · go_wp2
        go_ret
        exact bytesPost_false
      by_cases h5 : x + n2 > 1048576
      · go_wp2
        go_ret
        exact bytesPost_false
      go_wp2
      go_loop [9, 11] (fun t i => ∃ (k : Nat) (x : Int), k ≤ n2 ∧ i = .int .i64 k ∧ t = .int .i64 x ∧ 0 ≤ x ∧ x ≤ 1048576 ∧ Below20 k R2) (fun _ i => n2 - (intOf i).toNat)
      case atStart => exact ⟨0, _, Nat.zero_le _, rfl, rfl, by omega, by omega, fun j hj => by omega⟩
      case round =>
        obtain ⟨k2, x2, hk2, rfl, rfl, hx20, hx2, hB⟩ := hrel
        have HB : Hid (Below20 k2 R2) := hB
        clear hB
        by_cases hlt2 : k2 < n2
        · obtain ⟨rfl, hc2, a', m, c', hc20, hm⟩ := row_look H2.out hlt2
          have hok := HO2.out k2 hlt2
          have hk1 := hok.1
          have hm1 : m ≤ 9223372036854775807 := by
            rw [hm]; unfold vlen
            cases hq : (R2 k2).val with
            | none => simp
            | some bs => exact hok.2 bs hq
          have HM : Hid (m = vlen (R2 k2)) := hm
          clear hm hok
          go_wp2
          all_goals first | (go_ret; exact bytesPost_false) | skip
          go_round
          case rel => exact ⟨k2 + 1, _, by omega, by go_num, rfl, by omega, by omega, below20_succ HB.out (by rw [← HM.out]; omega)⟩
          case measure => simp [intOf]; omega
        · go_wp2
          go_ret
          exact bytesPost_true ⟨HS.out, by omega, fun j hj => HB.out j (by omega)⟩
end Go.Proofs.Qxb6615539aFmt
