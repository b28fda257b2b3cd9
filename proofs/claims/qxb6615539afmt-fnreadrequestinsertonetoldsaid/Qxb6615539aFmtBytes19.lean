import Derived.Test.Qxb6615539aFmtIsRead
namespace Go.Proofs.Qxb6615539aFmt
open Go.RowKit
open Extern.Stop (cell)
set_option linter.unusedSimpArgs false

/-! ### 19: the bound of InsertOne -/
def InsSmall (n : Nat) (R : Nat → Rep) (x : Rep) : Prop := n < 1048576 ∧ (∀ j, j < n → vlen (R j) ≤ 1048576) ∧ vlen x ≤ 1048576
def InsPost (n : Nat) (R : Nat → Rep) (x : Rep) (w : World) (e : Ending) (w' : World) : Prop := (∃ r : Bool, e = .returned (.bool r) ∧ (r = true → InsSmall n R x)) ∧ Below w.heap.size w w'
theorem insPost_false {n : Nat} {R : Nat → Rep} {x : Rep} {w w' : World} (h : Below w.heap.size w w') : InsPost n R x w (.returned (.bool false)) w' := ⟨⟨false, rfl, fun h => by cases h⟩, h⟩

set_option maxRecDepth 8000 in
set_option maxHeartbeats 4000000 in
theorem bytes19 (key : ByteArray) (mode : Int) (a : Option Addr) (b off n c : Nat) (R : Nat → Rep) (x : Rep) (vx : Value) (p : Int) (w : World) (hkey : key.size ≤ 9223372036854775807) (hn : n ≤ 9223372036854775807)
    (h : RowIn w a b off n R) (hok : ∀ j, j < n → RepOk (R j)) (hx : ValIn w vx x.val) (hokx : RepOk x) :
    Calls Tryf.prog 19 #[.string key, .int .u8 mode, .slice a n c, .agg (repCells x vx).toArray, .int .i64 p] w (InsPost n R x w) := by
  obtain ⟨W, hW⟩ : ∃ W, W = w.alloc (.cells (repCells x vx).toArray 49) := ⟨_, rfl⟩
  have hbel : Below w.heap.size w W := by rw [hW]; exact (Below.refl _ _).alloc (Nat.le_refl _) _
  have B : BoxAt W w.heap.size x vx := by rw [hW]; exact boxAt_rep (range_box w _ 49)
  have x2 := B.f2
  have x20 := B.f20
  obtain ⟨ax, lx, kx, ex, hlx⟩ := valIn_slice hx
  subst ex
  have HLX : Hid (lx = vlen x) := hlx
  have hxk := hokx.1
  have hlx1 : lx ≤ 9223372036854775807 := by
    rw [hlx]
    cases hq : x.val with
    | none => simp
    | some bs => exact hokx.2 bs hq
  have H : Hid (RowIn W a b off n R) := Below.row h hbel
  have HO : Hid (∀ j, j < n → RepOk (R j)) := hok
  have HW : Hid (W = w.alloc (.cells (repCells x (.slice ax lx kx)).toArray 49)) := hW
  clear h hok hx hokx hlx B hW
  by_cases h1 : (key.size : Int) > 1048576
  · go_enter Tryf.func19, Tryf.ntmps19
    go_upto_region 1 with fail
    rw [← HW.out]
    go_wp2_with fail
    go_ret
    exact insPost_false hbel
  by_cases h2 : (n : Int) > 1048576
  · go_enter Tryf.func19, Tryf.ntmps19
    go_upto_region 1 with fail
    rw [← HW.out]
    go_wp2_with fail
    go_ret
    exact insPost_false hbel
  by_cases h3 : (key.size : Int) + n > 1048576
  · go_enter Tryf.func19, Tryf.ntmps19
    go_upto_region 1 with fail
    rw [← HW.out]
    go_wp2_with fail
    go_ret
    exact insPost_false hbel
  go_enter Tryf.func19, Tryf.ntmps19
  go_upto_region 1 with fail
  rw [← HW.out]
  go_wp2_with fail
  go_loop [11, 12] (fun t i => ∃ (k : Nat) (y : Int), k ≤ n ∧ i = .int .i64 k ∧ t = .int .i64 y ∧ n + k ≤ y ∧ y ≤ 1048576 ∧ Below20 k R) (fun _ i => n - (intOf i).toNat)
  case atStart => exact ⟨0, _, Nat.zero_le _, rfl, rfl, by omega, by omega, fun j hj => by omega⟩
  case round =>
    obtain ⟨k, y, hk, rfl, rfl, hy0, hy, hB⟩ := hrel
    have HB : Hid (Below20 k R) := hB
    clear hB
    by_cases hlt : k < n
    · obtain ⟨rfl, hc2, a', m, c', hc20, hm⟩ := row_look H.out hlt
      have hok := HO.out k hlt
      have hk1 := hok.1
      have hm1 : m ≤ 9223372036854775807 := by
        rw [hm]; unfold vlen
        cases hq : (R k).val with
        | none => simp
        | some bs => exact hok.2 bs hq
      have HM : Hid (m = vlen (R k)) := hm
      clear hm hok
      go_wp2
      all_goals first | (go_ret; exact insPost_false hbel) | skip
      go_round
      case rel => exact ⟨k + 1, _, by omega, by go_num, rfl, by omega, by omega, below20_succ HB.out (by rw [← HM.out]; omega)⟩
      case measure => simp [intOf]; omega
    · have HS : Hid (n < 1048576 ∧ ∀ j, j < n → vlen (R j) ≤ 1048576) := ⟨by omega, fun j hj => HB.out j (by omega)⟩
      clear HB h1 h2 h3 H HO
      go_wp2_with fail
      all_goals first | (go_ret; exact insPost_false hbel) | skip
      go_ret
      exact ⟨⟨true, rfl, fun _ => ⟨HS.out.1, HS.out.2, by rw [← HLX.out]; omega⟩⟩, hbel⟩
end Go.Proofs.Qxb6615539aFmt
