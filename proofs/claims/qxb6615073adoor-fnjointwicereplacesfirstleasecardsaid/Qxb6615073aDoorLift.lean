import Derived.Test.Qxb6615073aDoorLaw
import Derived.WalkKit
import Derived.ProofKit
import Derived.OpenShut
import Derived.ShutString
import Derived.SliceStrings
import Derived.ChangeOld
import Derived.Below
import Derived.Carry
import Derived.OpenVars
import Derived.LaidMore
import Derived.Stop.Joined
namespace Go.Proofs.Qxb6615073aDoor
open Go.ChangeShapes Go.WideShapes Go.ChangeAt Go.RowKit
open Go.ChangeMaps (open_string shut_string)

theorem own : ownKnob Tryd.prog.godebug = none := by kernel_rfl
theorem laidOut : laidOutB Tryd.prog = true := by kernel_rfl

/-- The heap that the door's own run leaves meets the row's condition. -/
theorem door_met (os : Os) (args : Array Value) : laidMetH Tryd.prog Rows.fnJoinTwiceReplacesFirstLeaseRow.laid ((World.doorLaid Tryd.prog 400 os).forCall (fun _ _ => 0) ⟨#[], args, []⟩).memory :=
  laidMetH_of_parts3 (fuel := 8) (laidMet_of_run' 8 (by kernel_rfl) (by kernel_rfl)) (by kernel_rfl) (by kernel_rfl)

/-- What the walk is told of a slice of strings that came in. -/
theorem strsIn_of {H : Type} {enc : TypeId × Value → H} {W : World} {a : Option Addr} {n c : Nat} {d : DataW H} {p : List MemPlace}
    (h : DataW.Trod enc Tryd.prog W 0 (fun _ => true) true 23 (.slice a n c) d p) :
    n ≤ 9223372036854775807 ∧ ∃ b off S, StrsIn W a b off n S := by
  obtain ⟨fuel, hf⟩ := h
  rcases open_strings Tryd.underlying23 Tryd.underlying9 (by kernel_rfl) hf with ⟨hcs, _⟩ | ⟨x, l, c', ss, hcs, _, hl, hm, hz, _, hcell, hsz⟩
  · simp [Value.cells] at hcs
    obtain ⟨rfl, rfl, rfl⟩ := hcs
    exact ⟨by omega, 0, 0, fun _ => ByteArray.empty, ⟨fun h => by omega, fun j h => by omega, fun j h => by omega⟩⟩
  · simp [Value.cells] at hcs
    obtain ⟨rfl, rfl, rfl⟩ := hcs
    have hz' : ss.length = c := by simpa using hz
    have hmax : maxLen = 9223372036854775807 := rfl
    obtain ⟨b, off, spot⟩ := x
    refine ⟨by omega, b, off, fun i => ss.getD i ByteArray.empty, ⟨fun h0 => ?_, fun j hj => ?_, fun j hj => ?_⟩⟩
    · have hc := hcell 0 (by omega)
      have hspot : spot = none := by simpa [Addr.add] using World.cell?_spot hc
      rw [hspot]
    · have hc := hcell j (by omega)
      have hspot : spot = none := by simpa [Addr.add] using World.cell?_spot (hcell 0 (by omega))
      subst hspot
      by_cases hj0 : j = 0
      · subst hj0; simpa [Addr.add] using hc
      · simpa [Addr.add, hj0] using hc
    · have hlt : j < ss.length := by omega
      have := hsz (ss.getD j ByteArray.empty) (by simp [List.getD, hlt])
      omega

set_option maxRecDepth 100000 in
theorem lifted (os : Os) (started : os.Started) (H : Type) (enc : TypeId × Value → H) :
    ReturnsInHanded {} Tryd.checked os 3 .any (fun w args => (Rows.fnJoinTwiceReplacesFirstLeaseSpec.pre enc Tryd.prog Tryd.f3 [] false w args ∧ laidMetH Tryd.prog Rows.fnJoinTwiceReplacesFirstLeaseRow.laid w) ∧ sizedMet enc Tryd.prog Tryd.f3 (OpenSpec.ofChange Rows.fnJoinTwiceReplacesFirstLeaseSpec) false w args)
      (Rows.fnJoinTwiceReplacesFirstLeaseSpec.post enc Tryd.prog Tryd.f3 false true false false) := by
  refine returnsInHanded_of_change_and (C := Tryd.checked) (X := fun w _ => laidMetH Tryd.prog Rows.fnJoinTwiceReplacesFirstLeaseRow.laid w) (fun _ _ _ hh h => h.of_heap hh) own started (by kernel_rfl) Tryd.func3
    (ChangeSpec.witness_shaped (enc := enc) (C := Tryd.checked) (os := os) (X := fun w _ => laidMetH Tryd.prog Rows.fnJoinTwiceReplacesFirstLeaseRow.laid w) false (World.doorLaid Tryd.prog 400 os) #[.int .i64 0, .int .i64 0, .int .i64 0, .int .u64 0, .string ByteArray.empty, .slice none 0 0, .slice none 0 0, .int .i64 0, .int .i64 0] 8 rfl (World.shaped_of_RefB (by kernel_rfl) (by kernel_rfl)) (by kernel_rfl) (by kernel_rfl) (by kernel_rfl) (door_met os _)) ?_
  intro W base args ds gs before hval0 hW _ _ hL _
  have hval : ∀ (j : Nat) t v, Tryd.f3.params[j]? = some t → args[j]? = some v → Value.okWide Tryd.prog W .any base t v := hval0
  have hW' := hW
  obtain ⟨p, q, hA0, hV0, rfl, hfz, hnd⟩ := hW
  have hA : DataW.TrodAll enc Tryd.prog W 0 (fun _ => true) true Tryd.f3.params.toList args.toList ds p := hA0
  have hV : DataW.TrodVars enc Tryd.prog W (fun _ => true) Rows.fnJoinTwiceReplacesFirstLeaseSpec.vars gs q := hV0
  rw [Tryd.params3] at hA hval
  obtain ⟨v0, vs0, d0, ds0, p0, q0, hargs, rfl, rfl, h0, r0⟩ := trodAll_cons hA
  obtain ⟨v1, vs1, d1, ds1, p1, q1, rfl, rfl, rfl, h1, r1⟩ := trodAll_cons r0
  obtain ⟨v2, vs2, d2, ds2, p2, q2, rfl, rfl, rfl, h2, r2⟩ := trodAll_cons r1
  obtain ⟨v3, vs3, d3, ds3, p3, q3, rfl, rfl, rfl, h3, r3⟩ := trodAll_cons r2
  obtain ⟨v4, vs4, d4, ds4, p4, q4, rfl, rfl, rfl, h4, r4⟩ := trodAll_cons r3
  obtain ⟨v5, vs5, d5, ds5, p5, q5, rfl, rfl, rfl, h5, r5⟩ := trodAll_cons r4
  obtain ⟨v6, vs6, d6, ds6, p6, q6, rfl, rfl, rfl, h6, r6⟩ := trodAll_cons r5
  obtain ⟨v7, vs7, d7, ds7, p7, q7, rfl, rfl, rfl, h7, r7⟩ := trodAll_cons r6
  obtain ⟨v8, vs8, d8, ds8, p8, q8, rfl, rfl, rfl, h8, r8⟩ := trodAll_cons r7
  obtain ⟨rfl, rfl, rfl⟩ := trodAll_nil r8
  obtain rfl : args = #[v0, v1, v2, v3, v4, v5, v6, v7, v8] := by cases args; simp_all
  obtain ⟨g, tg, csg, fg, dg, pg, rfl, _, _, _, _, hqg⟩ := trodVars_one hV
  obtain ⟨i0, rfl, rfl, rfl, w0⟩ := open_int Tryd.underlying2 (hval 0 2 v0 rfl rfl) h0
  obtain ⟨i1, rfl, rfl, rfl, w1⟩ := open_int Tryd.underlying2 (hval 1 2 v1 rfl rfl) h1
  obtain ⟨i2, rfl, rfl, rfl, w2⟩ := open_int Tryd.underlying2 (hval 2 2 v2 rfl rfl) h2
  obtain ⟨i3, rfl, rfl, rfl, w3⟩ := open_int Tryd.underlying22 (hval 3 22 v3 rfl rfl) h3
  obtain ⟨s4, rfl, rfl, rfl, w4⟩ := open_string Tryd.underlying9 (hval 4 9 v4 rfl rfl) h4
  obtain ⟨a5, n5, c5, rfl⟩ := okWide_slice Tryd.underlying23 (hval 5 23 v5 rfl rfl)
  obtain ⟨a6, n6, c6, rfl⟩ := okWide_slice Tryd.underlying23 (hval 6 23 v6 rfl rfl)
  obtain ⟨i7, rfl, rfl, rfl, w7⟩ := open_int Tryd.underlying2 (hval 7 2 v7 rfl rfl) h7
  obtain ⟨i8, rfl, rfl, rfl, w8⟩ := open_int Tryd.underlying2 (hval 8 2 v8 rfl rfl) h8
  have lt5 : ∀ x ∈ p5, x.block < W.heap.size := by obtain ⟨m, hm⟩ := h5; exact DataW.trod_lt m _ _ _ hm
  have lt6 : ∀ x ∈ p6, x.block < W.heap.size := by obtain ⟨m, hm⟩ := h6; exact DataW.trod_lt m _ _ _ hm
  obtain ⟨hn5, b5, o5, S5, hs5⟩ := strsIn_of h5
  obtain ⟨hn6, b6, o6, S6, hs6⟩ := strsIn_of h6
  have hL2 : -9223372036854775808 ≤ i2 := by
    have e1 : IntKind.i64.min = -9223372036854775808 := rfl
    simp [Lit.wf] at w2
    omega
  have hC3 : 0 ≤ i3 ∧ i3 < 18446744073709551616 := by
    have e1 : IntKind.u64.min = 0 := rfl
    have e2 : IntKind.u64.max = 18446744073709551615 := rfl
    simp [Lit.wf] at w3
    omega
  clear hA0 hval0
  refine (law_any i0 i1 i2 i3 i7 i8 s4 a5 a6 b5 o5 n5 c5 b6 o6 n6 c6 S5 S6 W hL2 hC3 w4 hn5 hn6 hs5 hs6).mono fun e W' ⟨he, bel⟩ => ?_
  subst he
  have hargs' := trodAll_cons_mk (shut_int Tryd.underlying2 w0) (trodAll_cons_mk (shut_int Tryd.underlying2 w1) (trodAll_cons_mk (shut_int Tryd.underlying2 w2) (trodAll_cons_mk (shut_int Tryd.underlying22 w3) (trodAll_cons_mk (shut_string Tryd.underlying9 w4)
      (trodAll_cons_mk (Below.trod laidOut (by kernel_rfl) (of_decide_eq_true (by kernel_rfl)) h5 bel lt5) (trodAll_cons_mk (Below.trod laidOut (by kernel_rfl) (of_decide_eq_true (by kernel_rfl)) h6 bel lt6)
      (trodAll_cons_mk (shut_int Tryd.underlying2 w7) (trodAll_cons_mk (shut_int Tryd.underlying2 w8) trodAll_mk0))))))))
  have hvars' := Below.trodVars laidOut bel (by kernel_rfl) hV
  exact ⟨_, rfl, _, _, _, [], _, q, hW', trodAll_mk1 (shut_bool Tryd.underlying4 _), hargs', hvars', bel.frame _, fun h => by cases h⟩

theorem row_holds : Rows.FnJoinTwiceReplacesFirstLeaseSaid :=
  OpenClaim.holds_of_wide 3 Tryd.f3 rfl rfl rfl rfl rfl rfl rfl ⟨rfl, rfl, rfl, rfl, rfl⟩ rfl rfl rfl rfl rfl (by kernel_rfl) Tryd.func3 (by kernel_rfl)
    (of_decide_eq_true (by kernel_rfl)) (by unfold Func.isWrapper; first | (rw [if_pos (by decide +kernel)]; kernel_rfl) | (rw [if_neg (by decide +kernel)]; exact ⟨rfl, rfl⟩))
    (fun os started H enc _ => lifted os started H enc)
end Go.Proofs.Qxb6615073aDoor
