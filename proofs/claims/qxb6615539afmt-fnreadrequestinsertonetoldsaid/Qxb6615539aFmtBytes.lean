import Derived.Test.Qxb6615539aFmtUse
namespace Go.Proofs.Qxb6615539aFmt
open Go.RowKit
open Extern.Stop (cell)

def vlen (r : Rep) : Nat := (r.val.getD []).length
/-- Few replies, each with a short value. -/
def Small (n : Nat) (R : Nat → Rep) : Prop := n ≤ 1048576 ∧ ∀ j, j < n → vlen (R j) ≤ 1048576
def BytesPost (p : Prop) (w : World) (e : Ending) (w' : World) : Prop := w' = w ∧ ∃ r : Bool, e = .returned (.bool r) ∧ (r = true → p)

theorem bytesPost_false {p : Prop} {w : World} : BytesPost p w (.returned (.bool false)) w := ⟨rfl, false, rfl, fun h => by cases h⟩
theorem bytesPost_true {p : Prop} {w : World} (h : p) : BytesPost p w (.returned (.bool true)) w := ⟨rfl, true, rfl, fun _ => h⟩

/-- What one round of the count wants of a reply. -/
theorem row_look {w : World} {a : Option Addr} {b off n : Nat} {R : Nat → Rep} (h : RowIn w a b off n R) {k : Nat} (hk : k < n) :
    a = some ⟨b, off, none⟩ ∧ w.cell? ⟨b, off + k * 59 + 2, none⟩ = some (.string (R k).key) ∧ ∃ a' m c', w.cell? ⟨b, off + k * 59 + 20, none⟩ = some (.slice a' m c') ∧ m = vlen (R k) := by
  obtain ⟨v, hr, hv⟩ := h.rep k hk
  obtain ⟨a', m, c', rfl, hm⟩ := valIn_slice hv
  have F := fieldsAt hr
  exact ⟨h.at_ (by omega), F.f2, a', m, c', F.f20, hm⟩

def Below20 (k : Nat) (R : Nat → Rep) : Prop := ∀ j, j < k → vlen (R j) ≤ 1048576

theorem below20_succ {k : Nat} {R : Nat → Rep} (h : Below20 k R) (hk : vlen (R k) ≤ 1048576) : Below20 (k + 1) R := fun j hj => by
  by_cases e : j = k
  · subst e; exact hk
  · exact h j (by omega)

set_option maxHeartbeats 1000000 in
theorem bytes7 (key : ByteArray) (mode : Int) (a : Option Addr) (b off n c : Nat) (R : Nat → Rep) (w : World) (hkey : key.size ≤ 9223372036854775807) (hn : n ≤ 9223372036854775807)
    (h : RowIn w a b off n R) (hok : ∀ j, j < n → RepOk (R j)) :
    Calls Tryf.prog 7 #[.string key, .int .u8 mode, .slice a n c] w (BytesPost (Small n R) w) := by
  have H : Hid (RowIn w a b off n R) := h
  have HO : Hid (∀ j, j < n → RepOk (R j)) := hok
  clear h hok
  by_cases h1 : (key.size : Int) > 1048576
  · go_enter Tryf.func7, Tryf.ntmps7
    go_wp2
    go_ret
    exact bytesPost_false
  by_cases h2 : (n : Int) > 1048576
  · go_enter Tryf.func7, Tryf.ntmps7
    go_wp2
    go_ret
    exact bytesPost_false
  by_cases h3 : (key.size : Int) + n > 1048576
  · go_enter Tryf.func7, Tryf.ntmps7
    go_wp2
    go_ret
    exact bytesPost_false
  go_enter Tryf.func7, Tryf.ntmps7
  go_wp2
  go_loop [7, 8] (fun t i => ∃ (k : Nat) (x : Int), k ≤ n ∧ i = .int .i64 k ∧ t = .int .i64 x ∧ 0 ≤ x ∧ x ≤ 1048576 ∧ Below20 k R) (fun _ i => n - (intOf i).toNat)
  case atStart => exact ⟨0, _, Nat.zero_le _, rfl, rfl, by omega, by omega, fun j hj => by omega⟩
  case round =>
    obtain ⟨k, x, hk, rfl, rfl, hx0, hx, hB⟩ := hrel
    have HB : Hid (Below20 k R) := hB
    clear hB
    by_cases hlt : k < n
    · obtain ⟨rfl, hc2, a', m, c', hc20, hm⟩ := row_look H.out hlt
      have hok := HO.out k hlt
      have hk1 := hok.1
      have hm1 : m ≤ 9223372036854775807 := by
        rw [hm]; unfold vlen
        cases hq : (R k).val with
        | none => simp
        | some bs => exact hok.2 bs hq
      have HM : Hid (m = vlen (R k)) := hm
      clear hm hok
      go_wp2
      all_goals first | (go_ret; exact bytesPost_false) | skip
      go_round
      case rel => exact ⟨k + 1, _, by omega, by go_num, rfl, by omega, by omega, below20_succ HB.out (by rw [← HM.out]; omega)⟩
      case measure => simp [intOf]; omega
    · go_wp2
      go_ret
      exact bytesPost_true ⟨by omega, fun j hj => HB.out j (by omega)⟩
set_option maxHeartbeats 1000000 in
theorem bytes28 (key : ByteArray) (mode : Int) (a : Option Addr) (b off n c : Nat) (R : Nat → Rep) (w : World) (hkey : key.size ≤ 9223372036854775807) (hn : n ≤ 9223372036854775807)
    (h : RowIn w a b off n R) (hok : ∀ j, j < n → RepOk (R j)) :
    Calls Tryf.prog 28 #[.string key, .int .u8 mode, .slice a n c] w (BytesPost (Small n R) w) := by
  have H : Hid (RowIn w a b off n R) := h
  have HO : Hid (∀ j, j < n → RepOk (R j)) := hok
  clear h hok
  by_cases h1 : (key.size : Int) > 1048576
  · go_enter Tryf.func28, Tryf.ntmps28
    go_wp2
    go_ret
    exact bytesPost_false
  by_cases h2 : (n : Int) > 1048576
  · go_enter Tryf.func28, Tryf.ntmps28
    go_wp2
    go_ret
    exact bytesPost_false
  by_cases h3 : (key.size : Int) + n > 1048576
  · go_enter Tryf.func28, Tryf.ntmps28
    go_wp2
    go_ret
    exact bytesPost_false
  go_enter Tryf.func28, Tryf.ntmps28
  go_wp2
  go_loop [7, 8] (fun t i => ∃ (k : Nat) (x : Int), k ≤ n ∧ i = .int .i64 k ∧ t = .int .i64 x ∧ 0 ≤ x ∧ x ≤ 1048576 ∧ Below20 k R) (fun _ i => n - (intOf i).toNat)
  case atStart => exact ⟨0, _, Nat.zero_le _, rfl, rfl, by omega, by omega, fun j hj => by omega⟩
  case round =>
    obtain ⟨k, x, hk, rfl, rfl, hx0, hx, hB⟩ := hrel
    have HB : Hid (Below20 k R) := hB
    clear hB
    by_cases hlt : k < n
    · obtain ⟨rfl, hc2, a', m, c', hc20, hm⟩ := row_look H.out hlt
      have hok := HO.out k hlt
      have hk1 := hok.1
      have hm1 : m ≤ 9223372036854775807 := by
        rw [hm]; unfold vlen
        cases hq : (R k).val with
        | none => simp
        | some bs => exact hok.2 bs hq
      have HM : Hid (m = vlen (R k)) := hm
      clear hm hok
      go_wp2
      all_goals first | (go_ret; exact bytesPost_false) | skip
      go_round
      case rel => exact ⟨k + 1, _, by omega, by go_num, rfl, by omega, by omega, below20_succ HB.out (by rw [← HM.out]; omega)⟩
      case measure => simp [intOf]; omega
    · go_wp2
      go_ret
      exact bytesPost_true ⟨by omega, fun j hj => HB.out j (by omega)⟩
end Go.Proofs.Qxb6615539aFmt
