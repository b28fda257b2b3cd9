import Derived.Test.Qxb6615073aDoorLook
namespace Go.Proofs.Qxb6615073aDoor
open Go.RowKit

/-! ## Numbers -/
theorem drift_bound {l d : Int} (h1 : 0 < l) (h2 : l ≤ 1125899906842624) (h3 : 0 ≤ d) (h4 : d ≤ 1073741824) : 0 ≤ driftOf d l ∧ driftOf d l ≤ 1300000000000000000 := by
  have e1 : l.tdiv 1000000 = l / 1000000 := Int.tdiv_eq_ediv_of_nonneg (by omega)
  have e2 : l.tmod 1000000 = l % 1000000 := Int.tmod_eq_emod_of_nonneg (by omega)
  have b1 : 0 ≤ l / 1000000 * d := Int.mul_nonneg (by omega) h3
  have b2 : l / 1000000 * d ≤ 1125899907 * 1073741824 := Int.mul_le_mul (by omega) h4 h3 (by decide)
  have b3 : 0 ≤ l % 1000000 * d := Int.mul_nonneg (by omega) h3
  have b4 : l % 1000000 * d ≤ 1000000 * 1073741824 := Int.mul_le_mul (by omega) h4 h3 (by decide)
  have e3 : (l % 1000000 * d).tdiv 1000000 = (l % 1000000 * d) / 1000000 := Int.tdiv_eq_ediv_of_nonneg b3
  have w1 : wrap64 (l / 1000000) = l / 1000000 := IntWalk.wrap64_in _ ⟨by omega, by omega⟩
  unfold driftOf
  rw [e1, e2, w1]
  revert b1 b2 b3 b4 e3
  generalize l / 1000000 * d = x
  generalize l % 1000000 * d = y
  intro b1 b2 b3 b4 e3
  have w2 : wrap64 y = y := IntWalk.wrap64_in _ ⟨by omega, by omega⟩
  have w3 : wrap64 x = x := IntWalk.wrap64_in _ ⟨by omega, by omega⟩
  have w4 : wrap64 (y / 1000000) = y / 1000000 := IntWalk.wrap64_in _ ⟨by omega, by omega⟩
  rw [w2, e3, w3, w4]
  have w5 : wrap64 (x + y / 1000000) = x + y / 1000000 := IntWalk.wrap64_in _ ⟨by omega, by omega⟩
  rw [w5]
  omega

/-- A lease just granted under an ordinary rule, at an ordinary moment, is valid. -/
theorem state_ordinary {l d now : Int} (h1 : 0 < l) (h2 : l ≤ 1125899906842624) (h3 : 0 ≤ d) (h4 : d ≤ 1073741824) (h5 : -1152921504606846976 ≤ now) (h6 : now ≤ 1152921504606846976) : stateOf l d now 0 now = 0 := by
  obtain ⟨b1, b2⟩ := drift_bound h1 h2 h3 h4
  have w1 : wrap64 (now + l) = now + l := IntWalk.wrap64_in _ ⟨by omega, by omega⟩
  have w2 : wrap64 (now + l + driftOf d l) = now + l + driftOf d l := IntWalk.wrap64_in _ ⟨by omega, by omega⟩
  have e1 : l.tdiv 3 = l / 3 := Int.tdiv_eq_ediv_of_nonneg (by omega)
  have w3 : wrap64 (l / 3) = l / 3 := IntWalk.wrap64_in _ ⟨by omega, by omega⟩
  have w4 : wrap64 (2 * (l / 3)) = 2 * (l / 3) := IntWalk.wrap64_in _ ⟨by omega, by omega⟩
  have w5 : wrap64 (now - now) = 0 := by rw [Int.sub_self]; exact IntWalk.wrap64_in _ ⟨by omega, by omega⟩
  unfold stateOf fencedAt
  rw [w1, w2, e1, w3, w4, w5, if_neg (by omega), if_neg (by omega)]

theorem changes_eq {C L0 L : Int} (h1 : L0 ≤ L) (h2 : L ≤ L0 + 1000000) : wrap64 (IntKind.u64.wrap (IntKind.u64.wrap (C + (L - L0)) - C)) = L - L0 := by
  simp only [IntKind.wrap_u64]
  have : ((C + (L - L0)) % 18446744073709551616 - C) % 18446744073709551616 = L - L0 := by omega
  rw [this]
  exact IntWalk.wrap64_in _ ⟨by omega, by omega⟩

/-! ## The strings' count and their copy, whatever the slice -/
theorem strsBytes_in (a : Option Addr) (b off n c : Nat) (S : Nat → ByteArray) (start limit : Int) (w : World) (hn : n ≤ maxLen) (h : StrsIn w a b off n S) (h0 : 0 ≤ start) (h1 : start ≤ limit) (h2 : limit ≤ 1048576) :
    Calls Tryd.prog 5 #[.slice a n c, .int .i64 start, .int .i64 limit] w (SBPost start limit n w) := by
  rcases Nat.eq_zero_or_pos n with rfl | hp
  · exact (strsBytes_nil a c start limit w).mono fun e w' ⟨he, hw⟩ => ⟨start, false, he, fun _ => ⟨by omega, h1⟩, hw⟩
  · rw [h.at_ hp]
    exact strsBytes_any b off n c S start limit w hn h.cell h.size h0 h1 h2

def CloneIn (n : Nat) (S : Nat → ByteArray) (w : World) (e : Ending) (w' : World) : Prop :=
  ∃ (a : Option Addr) (c : Nat), e = .returned (.slice a n c) ∧ StrsRow w' a w.heap.size n S ∧ Below w.heap.size w w'

set_option maxRecDepth 100000 in
theorem clone_zero (A : Addr) (c : Nat) (S : Nat → ByteArray) (w : World) : Calls Tryd.prog 6 #[.slice (some A) 0 c] w (CloneIn 0 S w) := by
  have hq := fun w => Lib.run_eql_slice_nil (P := Tryd.prog) w 23 9 (some A) 0 c 0 0 Tryd.underlying23
  have hmk : ∀ w, (Instr.makeSlice 23 (.int .i64 0) (.int .i64 0)).run Tryd.prog w = .ok (.slice (some ⟨w.heap.size, 0, none⟩) 0 0) (w.alloc (.cells (madeCells #[.string ByteArray.empty] 0) 9)) := fun w =>
    run_make_row' (P := Tryd.prog) 23 9 (.string ByteArray.empty) 16 Tryd.underlying23 Tryd.info9 rfl .i64 .i64 0 (by omega) (by omega) w
  go_enter Tryd.func6, Tryd.ntmps6
  go_wp2
  go_loopw [4] (fun i wr => i = .int .i64 0 ∧ Below w.heap.size w wr) (fun _ _ => 0)
  case atStart => exact ⟨rfl, (Below.refl _ _).alloc (Nat.le_refl _) _⟩
  case round =>
    obtain ⟨rfl, hb⟩ := hrel
    go_wp2
    go_ret
    exact ⟨_, _, rfl, ⟨fun h => by omega, fun j hj => by omega, by omega⟩, hb⟩

set_option maxRecDepth 100000 in
theorem clone_in (a : Option Addr) (b off n c : Nat) (S : Nat → ByteArray) (w : World) (hn : n ≤ 32768) (h : StrsIn w a b off n S) : Calls Tryd.prog 6 #[.slice a n c] w (CloneIn n S w) := by
  rcases Nat.eq_zero_or_pos n with rfl | hp
  · cases a with
    | some A => exact clone_zero A c S w
    | none =>
      have hq := fun w => Lib.run_eql_slice_nil (P := Tryd.prog) w 23 9 none 0 c 0 0 Tryd.underlying23
      go_enter Tryd.func6, Tryd.ntmps6
      go_wp2
      go_ret
      exact ⟨none, 0, rfl, ⟨fun h => by omega, fun j hj => by omega, by omega⟩, Below.refl _ _⟩
  · have hlt : b < w.heap.size := lt_of_cell (h.cell 0 hp)
    rw [h.at_ hp]
    refine (clone_any b off n c S w hn hlt h.cell).mono fun e w' ⟨a', he, ha, hr, hb⟩ => ⟨a', n, he, ⟨fun _ => ⟨by rw [ha]; rfl, hr rfl⟩, h.size, hn⟩, hb⟩

/-! ## 9: ZZjoin -/
set_option maxRecDepth 100000 in
theorem zzjoin1_any {K : Cx} {T : Nat} {now L : Int} {w : World} (h : Pre K T now L 0 (fun _ => False) (fun _ => False) (fun _ => (0, 0)) w) (hM : w.heap[K.M]? = some (.map #[] 0)) {a : Option Addr} {n cp sb : Nat} {S : Nat → ByteArray} (hS : StrsRow w a sb n S) (hL : -9223372036854775808 ≤ L ∧ L + 100000 < 9223372036854775807) :
    Calls Tryd.prog 9 #[ptr T, .string K.nm, .slice a n cp] w (Join1Post K T now L n w) := by
  have H := join1_any (cp := cp) h hM hS hL
  have HH : Hid (Calls Tryd.prog 20 #[.agg #[.string K.nm, .slice a n cp], ptr T] w (Join1Post K T now L n w)) := H
  clear H h hM hS hL
  unfold ptr at *
  go_enter Tryd.func9, Tryd.ntmps9
  go_wp2_with (go_at_call 20; refine HH.out.mono ?_; rintro e w' ⟨rfl, hq⟩)
  go_end0
  exact ⟨rfl, hq⟩
set_option maxRecDepth 100000 in
theorem zzjoin2_any {K : Cx} {T m1 : Nat} {now : Int} {mems : Nat → Prop} {E : Nat → Int × Int} {G : Nat → Prop} {L : Int} {N : Nat} {q : Bool} {w : World} (h : Inv K ⟨T, now, m1, mems, E⟩ G 0 L N q w) (hone : ∀ b, mems b → b = m1) (hP : K.P ≠ K.M ∧ K.P ≠ K.R) (hr : RepAny K w)
    {a : Option Addr} {n cp sb : Nat} {S : Nat → ByteArray} (hS : StrsRow w a sb n S) (hL : -9223372036854775808 ≤ L ∧ L + 100000 < 9223372036854775807) (hN : N < 200000) (hE : (Lit.int .i64 (E m1).1).wf = true) :
    Calls Tryd.prog 9 #[ptr T, .string K.nm, .slice a n cp] w (Join2Post K ⟨T, now, m1, mems, E⟩ G L n w) := by
  have H := join2_any (cp := cp) h hone hP hr hS hL hN hE
  have HH : Hid (Calls Tryd.prog 20 #[.agg #[.string K.nm, .slice a n cp], ptr T] w (Join2Post K ⟨T, now, m1, mems, E⟩ G L n w)) := H
  clear H h hone hP hr hS hL hN hE
  unfold ptr at *
  go_enter Tryd.func9, Tryd.ntmps9
  go_wp2_with (go_at_call 20; refine HH.out.mono ?_; rintro e w' ⟨rfl, hq⟩)
  go_end0
  exact ⟨rfl, hq⟩

/-! ## 17: ZZmayWait -/
set_option maxRecDepth 100000 in
theorem zzmayWait_any (c : Nat) (nm : ByteArray) (e now : Int) (w : World) (r : Bool) (h : Calls Tryd.prog 21 #[ptr c, .string nm, .int .i64 e, .int .i64 now] w (Ret (.bool r) w)) : Calls Tryd.prog 17 #[ptr c, .string nm, .int .i64 e, .int .i64 now] w (Ret (.bool r) w) := by
  have HH : Hid (Calls Tryd.prog 21 #[ptr c, .string nm, .int .i64 e, .int .i64 now] w (Ret (.bool r) w)) := h
  clear h
  unfold ptr at *
  go_enter Tryd.func17, Tryd.ntmps17
  go_wp2_with (go_at_call 21; refine HH.out.mono ?_; rintro e w' ⟨rfl, hq⟩)
  go_ret
  exact ⟨rfl, hq⟩
end Go.Proofs.Qxb6615073aDoor
