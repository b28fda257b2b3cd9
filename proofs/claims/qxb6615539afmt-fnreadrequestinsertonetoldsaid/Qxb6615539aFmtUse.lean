import Derived.Test.Qxb6615539aFmtBase
import Derived.Deep.WholeRow
namespace Go.Proofs.Qxb6615539aFmt
open Go.RowKit
open Extern.Stop (cell)

theorem strBytes_any (s : ByteArray) (u : Int) (w : World) (hs : s.size ≤ 9223372036854775807) (hu : u ≤ 1048576) :
    Calls Tryf.prog 9 #[.string s, .int .i64 u] w fun e w' => (∃ n : Int, e = .returned (.int .i64 n) ∧ n ≤ 1048576) ∧ w' = w := by
  by_cases h0 : u < 0
  · go_enter Tryf.func9, Tryf.ntmps9
    go_wp2
    go_ret
    exact ⟨⟨_, rfl, by omega⟩, rfl⟩
  · by_cases h1 : (s.size : Int) > 1048576 - u
    · go_enter Tryf.func9, Tryf.ntmps9
      go_wp2
      go_ret
      exact ⟨⟨_, rfl, by omega⟩, rfl⟩
    · go_enter Tryf.func9, Tryf.ntmps9
      go_wp2
      go_ret
      exact ⟨⟨_, rfl, by omega⟩, rfl⟩

theorem sliBytes_any (a : Option Addr) (n c : Nat) (u : Int) (w : World) (hs : n ≤ 9223372036854775807) (hu : u ≤ 1048576) :
    Calls Tryf.prog 35 #[.slice a n c, .int .i64 u] w fun e w' => (∃ n : Int, e = .returned (.int .i64 n) ∧ n ≤ 1048576) ∧ w' = w := by
  by_cases h0 : u < 0
  · go_enter Tryf.func35, Tryf.ntmps35
    go_wp2
    go_ret
    exact ⟨⟨_, rfl, by omega⟩, rfl⟩
  · by_cases h1 : (n : Int) > 1048576 - u
    · go_enter Tryf.func35, Tryf.ntmps35
      go_wp2
      go_ret
      exact ⟨⟨_, rfl, by omega⟩, rfl⟩
    · go_enter Tryf.func35, Tryf.ntmps35
      go_wp2
      go_ret
      exact ⟨⟨_, rfl, by omega⟩, rfl⟩

theorem repUse_any (r : Rep) (a : Option Addr) (n c : Nat) (u : Int) (w : World) (hk : r.key.size ≤ 9223372036854775807) (hs : n ≤ 9223372036854775807) (hu : u ≤ 1048576) :
    Calls Tryf.prog 20 #[.agg (repCells r (.slice a n c)).toArray, .int .i64 u] w fun e w' => (∃ n : Int, e = .returned (.int .i64 n) ∧ n ≤ 1048576) ∧ Below w.heap.size w w' := by
  have hb : (w.alloc (.cells (repCells r (.slice a n c)).toArray 49)).rangeAt w.heap.size 0 (repCells r (.slice a n c)) := by
    intro j v hj
    rw [cell_of_row _ _ (0 + j) _ 49 (0, 0) (heap_alloc_last w _)]
    simpa using hj
  have F := fieldsAt hb
  have f2 := F.f2
  have f20 := F.f20
  clear hb F
  by_cases h0 : u < 0
  · go_enter Tryf.func20, Tryf.ntmps20
    go_wp2_with fail
    go_ret
    exact ⟨⟨_, rfl, by omega⟩, (Below.refl _ _).alloc (Nat.le_refl _) _⟩
  · by_cases h1 : (128 : Int) > 1048576 - u
    · go_enter Tryf.func20, Tryf.ntmps20
      go_wp2_with fail
      go_ret
      exact ⟨⟨_, rfl, by omega⟩, (Below.refl _ _).alloc (Nat.le_refl _) _⟩
    · have h2 : u + 128 ≤ 1048576 := by omega
      go_enter Tryf.func20, Tryf.ntmps20
      go_wp2_with fail
      go_at_call 9
      refine (strBytes_any r.key (u + 128) _ hk h2).mono ?_
      rintro e w1 ⟨⟨m, rfl, hm⟩, rfl⟩
      go_wp2_with fail
      go_at_call 35
      refine (sliBytes_any a n c m _ hs hm).mono ?_
      rintro e w1 ⟨⟨m', rfl, hm'⟩, rfl⟩
      go_wp2_with fail
      go_ret
      exact ⟨⟨_, rfl, by omega⟩, (Below.refl _ _).alloc (Nat.le_refl _) _⟩
/-- What is known of the sizes of a reply that came in. -/
def RepOk (r : Rep) : Prop := r.key.size ≤ 9223372036854775807 ∧ (∀ bs, r.val = some bs → bs.length ≤ 9223372036854775807)

theorem valIn_slice {w : World} {v : Value} {x : Option (List UInt8)} (h : ValIn w v x) : ∃ a n c, v = .slice a n c ∧ n = (x.getD []).length := by
  cases x with
  | none => cases h; exact ⟨none, 0, 0, rfl, rfl⟩
  | some bs => obtain ⟨a, c, b, o, rfl, _⟩ := h; exact ⟨_, _, c, rfl, rfl⟩

set_option maxHeartbeats 400000 in
theorem repsUse_any (a : Option Addr) (b off n c : Nat) (R : Nat → Rep) (u : Int) (w : World) (hn : n ≤ 9223372036854775807) (hu : u ≤ 1048576) (h : RowIn w a b off n R) (hok : ∀ j, j < n → RepOk (R j)) :
    Calls Tryf.prog 8 #[.slice a n c, .int .i64 u] w fun e w' => (∃ n : Int, e = .returned (.int .i64 n) ∧ n ≤ 1048576) ∧ Below w.heap.size w w' := by
  have H : Hid (RowIn w a b off n R) := h
  have HO : Hid (∀ j, j < n → RepOk (R j)) := hok
  clear h hok
  go_enter Tryf.func8, Tryf.ntmps8
  go_wp2
  go_loopw [1, 5] (fun t i wr => ∃ (k : Nat) (x : Int), k ≤ n ∧ i = .int .i64 k ∧ t = .int .i64 x ∧ x ≤ 1048576 ∧ Below w.heap.size w wr) (fun _ i _ => n - (intOf i).toNat)
  case atStart => exact ⟨0, u, Nat.zero_le _, rfl, rfl, hu, Below.refl _ _⟩
  case round =>
    obtain ⟨k, x, hk, rfl, rfl, hx, hbel⟩ := hrel
    by_cases hlt : k < n
    · obtain ⟨v, hr, hv⟩ := Below.rep (H.out.rep k hlt) hbel
      obtain ⟨a', n', c', rfl, hn'⟩ := valIn_slice hv
      obtain rfl := H.out.at_ (by omega)
      have hi : (Tryf.prog.info? 49).map (·.size) = some (repCells (R k) (.slice a' n' c')).length := by rw [repCells_len]; exact info49
      have hok := HO.out k hlt
      have hn2 : n' ≤ 9223372036854775807 := by
        cases hq : (R k).val with
        | none => rw [hq] at hn'; simp at hn'; omega
        | some bs => rw [hq] at hn'; simp at hn'; have := hok.2 bs hq; omega
      clear hn' hv
      go_wp2_with (refine wpList_load_mid rfl 49 _ rfl _ _ rfl (repCells (R k) (.slice a' n' c')) _ hr Tryf.underlying49 rfl hi ?_)
      go_at_call 20
      refine (repUse_any (R k) a' n' c' x wr hok.1 hn2 hx).mono ?_
      rintro e w1 ⟨⟨m, rfl, hm⟩, hb1⟩
      have hbel2 := hbel.trans (hb1.mono hbel.size)
      go_wp2_with fail
      · go_ret
        exact ⟨⟨_, rfl, by omega⟩, hbel2⟩
      · go_roundw
        case rel => exact ⟨k + 1, m, by omega, by go_num, rfl, hm, hbel2⟩
        case measure => simp [intOf]; omega
    · go_wp2_with fail
      go_ret
      exact ⟨⟨x, rfl, hx⟩, hbel⟩
end Go.Proofs.Qxb6615539aFmt
