import Derived.Test.Qxb6615073aDoorLeaf
import Derived.Deep.QuietTactic
import Derived.BigQuiet
import Derived.Deep.RegionWith
namespace Go.Proofs.Qxb6615073aDoor
open Go.RowKit

/-! ## The small functions of package lease -/
theorem ret_int {k : IntKind} {a b : Int} (h : a = b) : Ending.returned (.int k a) = .returned (.int k b) := by rw [h]
theorem ret_bool {a b : Bool} (h : a = b) : Ending.returned (.bool a) = .returned (.bool b) := by rw [h]

/-- The call returns v, and below the blocks that were there nothing has turned. -/
def Ret (v : Value) (w : World) (e : Ending) (w' : World) : Prop := e = .returned v ∧ Below w.heap.size w w'

theorem over_any (s : Int) (w : World) : Calls Tryd.prog 23 #[.int .i64 s] w fun e w' => e = .returned (.bool (s == 2 || s == 3)) ∧ w' = w := by
  by_cases h : s = 2
  · subst h
    go_enter Tryd.func23, Tryd.ntmps23
    go_wp2
    go_ret
    exact ⟨rfl, rfl⟩
  · have h' : (s == 2) = false := by simp [h]
    go_enter Tryd.func23, Tryd.ntmps23
    go_wp2
    go_ret
    exact ⟨ret_bool (by rw [h', Bool.false_or]), rfl⟩

theorem renew_any (l : Int) (w : World) : Calls Tryd.prog 37 #[.int .i64 l] w fun e w' => e = .returned (.int .i64 (wrap64 (l.tdiv 3))) ∧ w' = w := by
  go_enter Tryd.func37, Tryd.ntmps37
  go_wp2
  go_ret
  exact ⟨rfl, rfl⟩

theorem ms_any (l : Int) (w : World) : Calls Tryd.prog 33 #[.int .i64 l] w fun e w' => e = .returned (.int .i64 (wrap64 (l.tdiv 1000000))) ∧ w' = w := by
  go_enter Tryd.func33, Tryd.ntmps33
  go_wp2
  go_ret
  exact ⟨rfl, rfl⟩

def driftOf (d span : Int) : Int := wrap64 (wrap64 (wrap64 (span.tdiv 1000000) * d) + wrap64 ((wrap64 (span.tmod 1000000 * d)).tdiv 1000000))
theorem of_any (d l : Int) (w : World) : Calls Tryd.prog 38 #[.int .i64 d, .int .i64 l] w fun e w' => e = .returned (.int .i64 (driftOf d l)) ∧ w' = w := by
  go_enter Tryd.func38, Tryd.ntmps38
  go_wp2
  go_ret
  exact ⟨rfl, rfl⟩

def fencedAt (l d la fl : Int) : Int := max (wrap64 (wrap64 (la + l) + driftOf d l)) fl

set_option maxHeartbeats 400000 in
theorem fenced_any (l d ep la fl : Int) (lf : Bool) (w : World) : Calls Tryd.prog 32 #[.agg #[.int .i64 l, .int .i64 d], .agg #[.int .i64 ep, .int .i64 la, .int .i64 fl, .bool lf]] w
    (Ret (.int .i64 (fencedAt l d la fl)) w) := by
  go_enter Tryd.func32, Tryd.ntmps32
  go_wp2
  go_quiet ((go_at_call 38; exact Calls.quiet_of_same (of_any _ _ _)))
  go_wp2
  all_goals
    go_ret
    exact ⟨ret_int (by unfold fencedAt; omega), below_drewN (((Below.refl _ _).alloc (Nat.le_refl _) _).alloc (by simp) _) _⟩

/-- The state of a lease that was not left: 2 fenced, 1 silent, 0 valid. -/
def stateOf (l d la fl now : Int) : Int :=
  if fencedAt l d la fl ≤ now then 2 else if wrap64 (2 * wrap64 (l.tdiv 3)) < wrap64 (now - la) then 1 else 0

theorem bcell {W w1 : World} (hb : Below W.heap.size W w1) : (∀ b o, b < W.heap.size → w1.cell? ⟨b, o, none⟩ = W.cell? ⟨b, o, none⟩) ∧ (∀ b o, b < W.heap.size → w1.frozen? ⟨b, o, none⟩ = W.frozen? ⟨b, o, none⟩) :=
  ⟨fun b o h => hb.cell (p := ⟨b, o, none⟩) h, fun b o h => hb.frozen (p := ⟨b, o, none⟩) h⟩

set_option maxHeartbeats 400000 in
theorem stateOf_any (l d ep la fl now : Int) (w : World) : Calls Tryd.prog 29 #[.agg #[.int .i64 l, .int .i64 d], .agg #[.int .i64 ep, .int .i64 la, .int .i64 fl, .bool false], .int .i64 now] w
    (Ret (.int .i64 (stateOf l d la fl now)) w) := by
  go_enter Tryd.func29, Tryd.ntmps29
  go_wp2_with (go_at_call 32; refine (fenced_any _ _ _ _ _ _ _).mono ?_; rintro e w' ⟨rfl, hb⟩)
  · go_ret
    have h : fencedAt l d la fl ≤ now := by assumption
    exact ⟨ret_int (by unfold stateOf; rw [if_pos h]), ((((Below.refl _ _).alloc (Nat.le_refl _) _).alloc (by simp) _).trans (hb.mono (by simp; omega)))⟩
  · obtain ⟨hc, hf⟩ := bcell hb
    have h : now < fencedAt l d la fl := by assumption
    go_quiet ((go_at_call 37; exact Calls.quiet_of_same (renew_any _ _)))
    go_wp2
    all_goals
      go_ret
      refine ⟨ret_int ?_, below_drewN ((((Below.refl _ _).alloc (Nat.le_refl _) _).alloc (by simp) _).trans (hb.mono (by simp; omega))) _⟩
      unfold stateOf
      rw [if_neg (by omega)]
      first | rw [if_pos (by assumption)] | rw [if_neg (by omega)]

/-! ## slices.Contains over strings: it answers some bool and turns nothing -/
set_option maxHeartbeats 400000 in
theorem index_any (a : Option Addr) (b off n c : Nat) (S : Nat → ByteArray) (v : ByteArray) (w : World) (hn : n ≤ 9223372036854775807) (h : StrsIn w a b off n S) :
    Calls Tryd.prog 45 #[.slice a n c, .string v] w fun e w' => (∃ i : Int, e = .returned (.int .i64 i)) ∧ w' = w := by
  go_enter Tryd.func45, Tryd.ntmps45
  go_wp2
  go_loop [8] (fun i => ∃ k : Nat, k ≤ n ∧ i = .int .i64 k) (fun i => n - (intOf i).toNat)
  case atStart => exact ⟨0, Nat.zero_le _, rfl⟩
  case round =>
    obtain ⟨k, hk, rfl⟩ := hrel
    by_cases hlt : k < n
    · have ha := h.at_ (by omega)
      subst ha
      have hck := h.cell k hlt
      go_wp2
      · go_ret; exact ⟨⟨_, rfl⟩, rfl⟩
      · go_round
        case rel => exact ⟨k + 1, by omega, by go_num⟩
        case measure => simp [intOf]; omega
    · go_wp2
      go_ret; exact ⟨⟨_, rfl⟩, rfl⟩

theorem contains_any (a : Option Addr) (b off n c : Nat) (S : Nat → ByteArray) (v : ByteArray) (w : World) (hn : n ≤ 9223372036854775807) (h : StrsIn w a b off n S) :
    Calls Tryd.prog 36 #[.slice a n c, .string v] w (BytesPost w) := by
  go_enter Tryd.func36, Tryd.ntmps36
  go_wp2_with (go_at_call 45; refine (index_any a b off n c S v _ hn h).mono ?_; rintro e w' ⟨⟨i, rfl⟩, rfl⟩)
  go_ret
  exact ⟨_, rfl, rfl⟩

/-! ## the law's own tests of its premises -/
def OrdPost (l d : Int) (w : World) (e : Ending) (w' : World) : Prop :=
  ∃ r : Bool, e = .returned (.bool r) ∧ (r = true → 0 < l ∧ l ≤ 1125899906842624 ∧ 0 ≤ d ∧ d ≤ 1073741824) ∧ w' = w
theorem ordRule_any (l d : Int) (w : World) : Calls Tryd.prog 18 #[.int .i64 l, .int .i64 d] w (OrdPost l d w) := by
  by_cases h1 : 0 < l
  · by_cases h2 : l ≤ 1125899906842624
    · by_cases h3 : 0 ≤ d
      · go_enter Tryd.func18, Tryd.ntmps18
        go_wp2
        go_ret
        exact ⟨_, rfl, fun h => ⟨h1, h2, h3, by simpa using h⟩, rfl⟩
      · have h3' : decide (0 ≤ d) = false := by simpa using h3
        go_enter Tryd.func18, Tryd.ntmps18
        go_wp2
        go_ret
        exact ⟨_, rfl, (fun h => by cases h), rfl⟩
    · have h2' : decide (l ≤ 1125899906842624) = false := by simpa using h2
      go_enter Tryd.func18, Tryd.ntmps18
      go_wp2
      go_ret
      exact ⟨_, rfl, (fun h => by cases h), rfl⟩
  · have h1' : decide (0 < l) = false := by simpa using h1
    go_enter Tryd.func18, Tryd.ntmps18
    go_wp2
    go_ret
    exact ⟨_, rfl, (fun h => by cases h), rfl⟩

def MomPost (t : Int) (w : World) (e : Ending) (w' : World) : Prop :=
  ∃ r : Bool, e = .returned (.bool r) ∧ (r = true → -1152921504606846976 ≤ t ∧ t ≤ 1152921504606846976) ∧ w' = w
theorem ordMoment_any (t : Int) (w : World) : Calls Tryd.prog 19 #[.int .i64 t] w (MomPost t w) := by
  by_cases h1 : -1152921504606846976 ≤ t
  · go_enter Tryd.func19, Tryd.ntmps19
    go_wp2
    go_ret
    exact ⟨_, rfl, fun h => ⟨h1, by simpa using h⟩, rfl⟩
  · have h1' : decide (-1152921504606846976 ≤ t) = false := by simpa using h1
    go_enter Tryd.func19, Tryd.ntmps19
    go_wp2
    go_ret
    exact ⟨_, rfl, (fun h => by cases h), rfl⟩
end Go.Proofs.Qxb6615073aDoor
