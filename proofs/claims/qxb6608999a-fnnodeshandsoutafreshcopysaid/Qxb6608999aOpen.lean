import Derived.Test.Qxb6608999aLaw
import Derived.Deep.Slices
import Derived.ChangeArms
import Derived.ProofKit
import Derived.OpenShut
import Derived.ChangeOld
import Derived.Below
import Derived.Carry
namespace Go.Proofs.Qxb6608999a
open Go.ChangeShapes Go.WideShapes Go.ChangeAt Go.RowKit
open Extern.Stop (cell)

theorem own : ownKnob Try.prog.godebug = none := by kernel_rfl
theorem laidOut : laidOutB Try.prog = true := by kernel_rfl

section
variable {H : Type} {enc : TypeId × Value → H} {w : World} {sp : Nat → Bool} {held : Bool}

/-- An array of twenty bytes. -/
theorem open_id20 {fuel : Nat} {cs : List Value} {x : DataW H × List MemPlace} (h : DataW.trod enc Try.prog w 0 sp held fuel 31 cs = some x) : ∃ u : Id20, cs = u.cells := by
  have c5 : Try.prog.cellsOf 5 = 1 := by kernel_rfl
  have c31 : Try.prog.cellsOf 31 = 20 := by kernel_rfl
  cases fuel with
  | zero => simp [DataW.trod] at h
  | succ n =>
    unfold DataW.trod at h
    rw [Try.underlying31] at h
    simp only [c5, c31, Nat.mul_one] at h
    split at h
    · rename_i hl
      obtain ⟨xs, hm, _⟩ := Option.map_eq_some_iff.1 h
      have hlen := mapM_some_length hm
      simp at hlen
      have each : ∀ i, i < 20 → ∃ b : UInt8, cs[i]? = some (cell b) := fun i hi => by
        have := mapM_some_get hm i i (by simp [hi])
        rw [List.getElem?_eq_getElem (by omega)] at this
        obtain ⟨z, hz, _, hw⟩ := DataW.trod_int Try.underlying5 this
        have h1 : cs[i]? = some (.int .u8 z) := by
          have h2 : ((cs.drop i).take 1)[0]? = some (.int .u8 z) := by rw [hz]; rfl
          simpa [List.getElem?_take, List.getElem?_drop] using h2
        exact ⟨_, by rw [h1, byte_cell hw]⟩
      obtain ⟨f, hf⟩ := Deep.choose_lt each
      refine ⟨⟨(List.range 20).map f, by simp⟩, List.ext_getElem? fun i => ?_⟩
      by_cases hi : i < 20
      · rw [hf i hi]; simp [Id20.cells, hi]
      · rw [List.getElem?_eq_none (by omega), List.getElem?_eq_none (by simp [Id20.cells_len]; omega)]
    · cases h

/-- A slice of ids that came in. -/
theorem open_row {a : Option Addr} {n c : Nat} {d : DataW H} {p : List MemPlace} (h : DataW.Trod enc Try.prog w 0 sp held 22 (.slice a n c) d p) :
    n ≤ 9223372036854775807 ∧ ∃ b off R, RowIn w a b off n R := by
  have hmax : maxLen = 9223372036854775807 := rfl
  have k31 : Try.prog.cellsOf 31 = 20 := by kernel_rfl
  obtain ⟨fuel, hf⟩ := h
  rcases Deep.open_slice Try.underlying22 hf with ⟨hcs, _⟩ | ⟨x, len, cap, m, k, D, Pl, hcs, _, hl, hm, hmm, _, hx⟩
  · simp [Value.cells] at hcs
    obtain ⟨rfl, rfl, rfl⟩ := hcs
    exact ⟨by omega, 0, 0, fun _ => Id20.zero, ⟨fun h => by omega, fun j h => by omega⟩⟩
  · simp [Value.cells] at hcs
    obtain ⟨rfl, rfl, rfl⟩ := hcs
    have hnm : n ≤ m := by rw [hmm]; split <;> omega
    obtain ⟨b, off, s⟩ := x
    rw [k31] at hx
    have each : ∀ i, i < n → ∃ r : Id20, s = none ∧ w.rangeAt b (off + i * 20) r.cells := fun i hi => by
      obtain ⟨cs, h1, h2⟩ := hx i (by omega)
      obtain ⟨_, hcl, hc⟩ := World.cells?_some h1
      obtain ⟨r, rfl⟩ := open_id20 h2
      have hs : s = none := by
        obtain ⟨cs0, g1, g2⟩ := hx 0 (by omega)
        obtain ⟨_, gl, gc⟩ := World.cells?_some g1
        have := gc 0 (by omega)
        rw [List.getElem?_eq_getElem (by omega)] at this
        simpa [Addr.add] using World.cell?_spot this
      subst hs
      refine ⟨r, rfl, fun j u hj => ?_⟩
      have hj20 : j < 20 := by have := (List.getElem?_eq_some_iff.1 hj).1; omega
      have := hc j hj20
      rw [hj] at this
      rw [← this]
      rw [Deep.add_add]
      by_cases hz : i * 20 + j = 0
      · have h1 : off + i * 20 + j = off := by omega
        simp [Addr.add, hz, h1]
      · rw [Addr.add, if_neg hz, ← Nat.add_assoc]
    obtain ⟨R, hR⟩ : ∃ R : Nat → Id20, ∀ i, i < n → s = none ∧ w.rangeAt b (off + i * 20) (R i).cells := by
      refine ⟨fun i => if hi : i < n then Classical.choose (each i hi) else Id20.zero, fun i hi => ?_⟩
      simp only [dif_pos hi]
      exact Classical.choose_spec (each i hi)
    refine ⟨by omega, b, off, R, ⟨fun h0 => ?_, fun j hj => (hR j hj).2⟩⟩
    rw [(hR 0 h0).1]
end

set_option maxRecDepth 100000 in
theorem lifted (os : Os) (started : os.Started) (H : Type) (enc : TypeId × Value → H) :
    ReturnsInHanded {} Try.checked os 3 .any (Rows.fnNodesHandsOutAFreshCopySpec.pre6 enc Try.prog Try.f3 Rows.fnNodesHandsOutAFreshCopyRow.domain false) (Rows.fnNodesHandsOutAFreshCopySpec.post enc Try.prog Try.f3 false true false false) := by
  refine returnsInHanded_of_change (C := Try.checked) own started (by kernel_rfl) Try.func3
    (ChangeSpec.witness6 (enc := enc) (C := Try.checked) false ⟨#[], #[.int .i64 0, .slice none 0 0], []⟩ 8 (by kernel_rfl) (by kernel_rfl) (by kernel_rfl) (by kernel_rfl)) ?_
  intro W base args ds gs before hval0 hW hcnd _
  have hval : ∀ (j : Nat) t v, Try.f3.params[j]? = some t → args[j]? = some v → Value.okWide Try.prog W .any base t v := hval0
  have hW' := hW
  obtain ⟨p, q, hA0, hV, rfl, hfz, hnd⟩ := hW
  have hA : DataW.TrodAll enc Try.prog W 0 (fun _ => true) true Try.f3.params.toList args.toList ds p := hA0
  rw [Try.params3] at hA hval
  obtain ⟨v0, vs0, d0, ds0, p0, q0, hargs, rfl, rfl, h0, r0⟩ := trodAll_cons hA
  obtain ⟨v1, vs1, d1, ds1, p1, q1, rfl, rfl, rfl, h1, r1⟩ := trodAll_cons r0
  obtain ⟨rfl, rfl, rfl⟩ := trodAll_nil r1
  obtain rfl : args = #[v0, v1] := by cases args; simp_all
  obtain ⟨rfl, rfl⟩ := trodVars_none hV
  obtain ⟨i0, rfl, rfl, rfl, w0⟩ := open_int Try.underlying3 (hval 0 3 v0 rfl rfl) h0
  obtain ⟨a1, n1, c1, rfl⟩ := okWide_slice Try.underlying22 (hval 1 22 v1 rfl rfl)
  have lt1 : ∀ x ∈ p1, x.block < W.heap.size := by obtain ⟨m, hm⟩ := h1; exact DataW.trod_lt m _ _ _ hm
  obtain ⟨hn1, b1, o1, R1, hr1⟩ := open_row h1
  clear hA0 hval0
  refine (law_any i0 a1 b1 o1 n1 c1 R1 W hn1 hr1).mono fun e W' ⟨he, bel⟩ => ?_
  subst he
  exact ⟨_, rfl, _, _, _, [], _, [], hW', trodAll_mk1 (shut_bool Try.underlying4 _), (trodAll_cons_mk (shut_int Try.underlying3 w0) (trodAll_cons_mk (Below.trod laidOut (by kernel_rfl) (of_decide_eq_true (by kernel_rfl)) h1 bel lt1) trodAll_mk0)), rfl, bel.frame _, fun h => by cases h⟩

theorem row_holds : Rows.FnNodesHandsOutAFreshCopySaid :=
  OpenClaim.holds_of_wide 3 Try.f3 rfl rfl rfl rfl rfl rfl rfl ⟨rfl, rfl, rfl, rfl, rfl⟩ rfl rfl rfl rfl rfl (by kernel_rfl) Try.func3 (by kernel_rfl)
    (of_decide_eq_true (by kernel_rfl)) (by unfold Func.isWrapper; first | (rw [if_pos (by decide +kernel)]; kernel_rfl) | (rw [if_neg (by decide +kernel)]; exact ⟨rfl, rfl⟩))
    (fun os started H enc _ => lifted os started H enc)
end Go.Proofs.Qxb6608999a
