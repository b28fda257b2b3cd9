import Derived.Test.Qxb6615073aDoorRows
import Derived.WalkKit
import Derived.WalkSpells
import Derived.WalkLawsBesides
import Derived.Deep.OwnRows
namespace Go.Proofs.Qxb6615073aDoor
open Go.RowKit

/-! ## 5: zzStringsBytes -/
set_option maxHeartbeats 400000 in
theorem strsBytes_nil (a : Option Addr) (c : Nat) (start limit : Int) (w : World) :
    Calls Tryd.prog 5 #[.slice a 0 c, .int .i64 start, .int .i64 limit] w fun e w' => e = .returned (.tuple #[.int .i64 start, .bool false]) ∧ w' = w := by
  go_enter Tryd.func5, Tryd.ntmps5
  go_wp2
  go_loop [8, 9] (fun t i => t = .int .i64 start ∧ i = .int .i64 0) (fun _ _ => 0)
  case atStart => exact ⟨rfl, rfl⟩
  case round =>
    obtain ⟨rfl, rfl⟩ := hrel
    go_wp2
    go_ret2
    exact ⟨rfl, rfl⟩

/-- What zzStringsBytes answers: a count and whether it passed the limit; where it did not, the count is at most the limit and at least sixteen for each string. -/
def SBPost (start limit : Int) (n : Nat) (w : World) (e : Ending) (w' : World) : Prop :=
  ∃ (t : Int) (big : Bool), e = .returned (.tuple #[.int .i64 t, .bool big]) ∧ (big = false → start + 16 * n ≤ t ∧ t ≤ limit) ∧ w' = w

set_option maxHeartbeats 400000 in
theorem strsBytes_any (b off n c : Nat) (S : Nat → ByteArray) (start limit : Int) (w : World) (hn : n ≤ maxLen)
    (hc : ∀ j, j < n → w.cell? ⟨b, off + j, none⟩ = some (.string (S j))) (hs : ∀ j, j < n → (S j).size ≤ maxLen)
    (h0 : 0 ≤ start) (h1 : start ≤ limit) (h2 : limit ≤ 1048576) :
    Calls Tryd.prog 5 #[.slice (some ⟨b, off, none⟩) n c, .int .i64 start, .int .i64 limit] w
      (SBPost start limit n w) := by
  unfold maxLen at hn hs
  go_enter Tryd.func5, Tryd.ntmps5
  go_wp2
  go_loop [8, 9] (fun t i => ∃ (k : Nat) (x : Int), k ≤ n ∧ i = .int .i64 k ∧ t = .int .i64 x ∧ start + 16 * k ≤ x ∧ x ≤ limit) (fun _ i => n - (intOf i).toNat)
  case atStart => exact ⟨0, start, Nat.zero_le _, rfl, rfl, by omega, by omega⟩
  case round =>
    obtain ⟨k, x, hk, rfl, rfl, hx1, hx2⟩ := hrel
    by_cases hlt : k < n
    · have hck := hc k hlt
      have hsk := hs k hlt
      go_wp2
      · go_ret2
        exact ⟨_, true, rfl, (fun h => by cases h), rfl⟩
      · go_ret2
        exact ⟨_, true, rfl, (fun h => by cases h), rfl⟩
      · go_round
        case rel => exact ⟨k + 1, _, by omega, by go_num, rfl, by omega, by omega⟩
        case measure => simp [intOf]; omega
    · go_wp2
      go_ret2
      exact ⟨x, false, rfl, fun _ => ⟨by omega, hx2⟩, rfl⟩

/-! ## 6: zzCloneStrings -/
theorem Tryd.info9 : (Tryd.prog.info? 9).map (fun i => (i.zero, i.size, i.bytes)) = some (some (.string ByteArray.empty), 1, 16) := by kernel_rfl
theorem Tryd.cells9 : Tryd.prog.cellsOf 9 = 1 := by kernel_rfl

/-- Block 'b' holds the strings S 0 .. S (n-1), and the value is the slice over it; or n = 0 and the slice is nil. -/
def ClonePost (nilIn : Bool) (n : Nat) (S : Nat → ByteArray) (w : World) (e : Ending) (w' : World) : Prop :=
  ∃ a : Option Addr, e = .returned (.slice a n n) ∧ (a = if nilIn then none else some ⟨w.heap.size, 0, none⟩) ∧ (nilIn = false → w'.rowIs w.heap.size 9 n (fun j => .string (S j))) ∧ Below w.heap.size w w'

theorem clone_nil (S : Nat → ByteArray) (w : World) : Calls Tryd.prog 6 #[.slice none 0 0] w (ClonePost true 0 S w) := by
  have hq := fun w => Lib.run_eql_slice_nil (P := Tryd.prog) w 23 9 none 0 0 0 0 Tryd.underlying23
  go_enter Tryd.func6, Tryd.ntmps6
  go_wp2
  go_ret
  exact ⟨none, rfl, rfl, (fun h => by cases h), Below.refl _ _⟩

theorem clone_step {w wr : World} {n k : Nat} {S : Nat → ByteArray} (hk : k < n)
    (hrow : wr.rowIs w.heap.size 9 n (fun j => if j < k then .string (S j) else .string ByteArray.empty)) :
    (wr.setCell ⟨w.heap.size, k, none⟩ (.string (S k))).rowIs w.heap.size 9 n (fun j => if j < k + 1 then .string (S j) else .string ByteArray.empty) := by
  refine (hrow.set k (.string (S k))).congr fun j hj => ?_
  by_cases e : j = k
  · subst e; simp
  · rw [if_neg e]
    by_cases h : j < k
    · rw [if_pos h, if_pos (by omega)]
    · rw [if_neg h, if_neg (by omega)]

set_option maxHeartbeats 400000 in
theorem clone_any (b off n c : Nat) (S : Nat → ByteArray) (w : World) (hn : n ≤ 32768) (hb : b < w.heap.size)
    (hc : ∀ j, j < n → w.cell? ⟨b, off + j, none⟩ = some (.string (S j))) :
    Calls Tryd.prog 6 #[.slice (some ⟨b, off, none⟩) n c] w (ClonePost false n S w) := by
  have hq := fun w => Lib.run_eql_slice_nil (P := Tryd.prog) w 23 9 (some ⟨b, off, none⟩) n c 0 0 Tryd.underlying23
  have hmk := run_make_row' (P := Tryd.prog) 23 9 (.string ByteArray.empty) 16 Tryd.underlying23 Tryd.info9 rfl .i64 .i64 n (by omega) (by omega)
  go_enter Tryd.func6, Tryd.ntmps6
  go_wp2
  go_loopw [4] (fun i wr => ∃ k : Nat, k ≤ n ∧ i = .int .i64 k ∧ wr.rowIs w.heap.size 9 n (fun j => if j < k then .string (S j) else .string ByteArray.empty) ∧ Below w.heap.size w wr) (fun i _ => n - (intOf i).toNat)
  case atStart => exact ⟨0, Nat.zero_le _, rfl, (World.rowIs_made w _ n 9).congr (fun j hj => by simp), (Below.refl _ _).alloc (Nat.le_refl _) _⟩
  case round =>
    obtain ⟨k, hk, rfl, hrow, hbel⟩ := hrel
    by_cases hlt : k < n
    · have hck : wr.cell? ⟨b, off + k, none⟩ = some (.string (S k)) := (hbel.cell (by exact hb)).trans (hc k hlt)
      have hw := hrow.cell hlt
      have hf := hrow.frozen k
      have R := clone_step hlt hrow
      have hbel' := hbel.setCell (p := ⟨w.heap.size, k, none⟩) (Nat.le_refl _) (.string (S k))
      go_wp2
      go_roundw
      case rel => exact ⟨k + 1, by omega, by go_num, R, hbel'⟩
      case measure => simp [intOf]; omega
    · go_wp2
      go_ret
      exact ⟨_, rfl, rfl, fun _ => hrow.congr (fun j hj => by rw [if_pos (by omega)]), hbel⟩

/-! ## 4: zzBytes: it answers some bool and turns nothing -/
def BytesPost (w : World) (e : Ending) (w' : World) : Prop := ∃ r : Bool, e = .returned (.bool r) ∧ w' = w

/-- A slice of strings as it came in: every element below the length is a string. -/
structure StrsIn (w : World) (a : Option Addr) (b off n : Nat) (S : Nat → ByteArray) : Prop where
  at_ : 0 < n → a = some ⟨b, off, none⟩
  cell : ∀ j, j < n → w.cell? ⟨b, off + j, none⟩ = some (.string (S j))
  size : ∀ j, j < n → (S j).size ≤ 9223372036854775807

set_option maxHeartbeats 1000000 in
theorem bytes_any (q1 q2 q3 q4 q5 q6 : Int) (s : ByteArray) (a1 a2 : Option Addr) (b1 o1 n1 c1 b2 o2 n2 c2 : Nat) (S1 S2 : Nat → ByteArray) (w : World)
    (hs : s.size ≤ 9223372036854775807) (hn1 : n1 ≤ 9223372036854775807) (hn2 : n2 ≤ 9223372036854775807) (h1 : StrsIn w a1 b1 o1 n1 S1) (h2 : StrsIn w a2 b2 o2 n2 S2) :
    Calls Tryd.prog 4 #[.int .i64 q1, .int .i64 q2, .int .i64 q3, .int .u64 q4, .string s, .slice a1 n1 c1, .slice a2 n2 c2, .int .i64 q5, .int .i64 q6] w (BytesPost w) := by
  go_enter Tryd.func4, Tryd.ntmps4
  go_wp2
  all_goals first | (go_ret; exact ⟨_, rfl, rfl⟩) | skip
  go_loop [19, 20] (fun t i => ∃ (k : Nat) (x : Int), k ≤ n1 ∧ i = .int .i64 k ∧ t = .int .i64 x ∧ 0 ≤ x ∧ x ≤ 1048576) (fun _ i => n1 - (intOf i).toNat)
  case atStart => exact ⟨0, _, Nat.zero_le _, rfl, rfl, by omega, by omega⟩
  case round =>
    obtain ⟨k, x, hk, rfl, rfl, hx1, hx2⟩ := hrel
    by_cases hlt : k < n1
    · have ha := h1.at_ (by omega)
      subst ha
      have hck := h1.cell k hlt
      have hsk := h1.size k hlt
      go_wp2
      · go_ret; exact ⟨_, rfl, rfl⟩
      · go_ret; exact ⟨_, rfl, rfl⟩
      · go_round
        case rel => exact ⟨k + 1, _, by omega, by go_num, rfl, by omega, by omega⟩
        case measure => simp [intOf]; omega
    · go_wp2
      all_goals first | (go_ret; exact ⟨_, rfl, rfl⟩) | skip
      go_loop [19, 21] (fun t i => ∃ (k : Nat) (x : Int), k ≤ n2 ∧ i = .int .i64 k ∧ t = .int .i64 x ∧ 0 ≤ x ∧ x ≤ 1048576) (fun _ i => n2 - (intOf i).toNat)
      case atStart => exact ⟨0, _, Nat.zero_le _, rfl, rfl, by omega, by omega⟩
      case round =>
        obtain ⟨k, x, hk, rfl, rfl, hx1, hx2⟩ := hrel
        by_cases hlt : k < n2
        · have ha := h2.at_ (by omega)
          subst ha
          have hck := h2.cell k hlt
          have hsk := h2.size k hlt
          go_wp2
          · go_ret; exact ⟨_, rfl, rfl⟩
          · go_ret; exact ⟨_, rfl, rfl⟩
          · go_round
            case rel => exact ⟨k + 1, _, by omega, by go_num, rfl, by omega, by omega⟩
            case measure => simp [intOf]; omega
        · go_wp2
          go_ret; exact ⟨_, rfl, rfl⟩
end Go.Proofs.Qxb6615073aDoor
