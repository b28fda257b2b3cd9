import Derived.Test.Qxb6608984aLaw4
import Derived.Deep.SlicePairs
import Derived.ChangeArms
import Derived.ProofKit
import Derived.OpenShut
import Derived.ShutString
import Derived.ChangeOld
import Derived.Below
import Derived.Carry
namespace Go.Proofs.Qxb6608984a
open Go.ChangeShapes Go.WideShapes Go.ChangeAt Go.RowKit

theorem own : ownKnob Try.prog.godebug = none := by kernel_rfl
theorem laidOut : laidOutB Try.prog = true := by kernel_rfl

/-- A slice of labels that came in. -/
theorem open_labels {H : Type} {enc : TypeId × Value → H} {w : World} {sp : Nat → Bool} {held : Bool} {a : Option Addr} {n c : Nat} {d : DataW H} {p : List MemPlace} (h : DataW.Trod enc Try.prog w 0 sp held 22 (.slice a n c) d p) :
    n ≤ 9223372036854775807 ∧ ∃ b off N V, PairsIn w a b off n N V ∧ Short n N V := by
  have hmax : maxLen = 9223372036854775807 := rfl
  obtain ⟨fuel, hf⟩ := h
  rcases Deep.open_slice_pairs Try.underlying22 Try.underlying31 (by kernel_rfl) rfl rfl (by kernel_rfl) (by kernel_rfl) hf with ⟨hcs, _⟩ | ⟨x, len, cap, m, k, V0, V1, D0, D1, P0, P1, hcs, _, hl, hm, hmm, _, hx⟩
  · simp [Value.cells] at hcs
    obtain ⟨rfl, rfl, rfl⟩ := hcs
    exact ⟨by omega, 0, 0, fun _ => ByteArray.empty, fun _ => ByteArray.empty, ⟨fun h => by omega, fun j h => by omega, fun j h => by omega⟩, fun j h => by omega⟩
  · simp [Value.cells] at hcs
    obtain ⟨rfl, rfl, rfl⟩ := hcs
    have hnm : n ≤ m := by rw [hmm]; split <;> omega
    obtain ⟨b, off, s⟩ := x
    have each : ∀ i, i < n → ∃ q : ByteArray × ByteArray, V0 i = .string q.1 ∧ V1 i = .string q.2 ∧ q.1.size ≤ maxLen ∧ q.2.size ≤ maxLen := fun i hi => by
      obtain ⟨_, _, h2, h3⟩ := hx i (by omega)
      obtain ⟨s0, e0, _, z0⟩ := DataW.trod_string Try.underlying9 h2
      obtain ⟨s1, e1, _, z1⟩ := DataW.trod_string Try.underlying9 h3
      exact ⟨(s0, s1), by simpa using e0, by simpa using e1, z0, z1⟩
    obtain ⟨q, hq⟩ : ∃ q : Nat → ByteArray × ByteArray, ∀ i, i < n → V0 i = .string (q i).1 ∧ V1 i = .string (q i).2 ∧ (q i).1.size ≤ maxLen ∧ (q i).2.size ≤ maxLen := by
      refine ⟨fun i => if hi : i < n then Classical.choose (each i hi) else (ByteArray.empty, ByteArray.empty), fun i hi => ?_⟩
      simp only [dif_pos hi]
      exact Classical.choose_spec (each i hi)
    have hs : ∀ _ : 0 < n, s = none := fun h0 => by
      have := (hx 0 (by omega)).1
      simpa [Addr.add] using World.cell?_spot this
    refine ⟨by omega, b, off, fun i => (q i).1, fun i => (q i).2, ⟨fun h0 => by rw [hs h0], fun j hj => ?_, fun j hj => ?_⟩, fun j hj => ⟨(hq j hj).2.2.1, (hq j hj).2.2.2⟩⟩
    · have := (hx j (by omega)).1
      rw [hs (by omega), (hq j hj).1] at this
      rw [← this]
      by_cases hz : j * 2 = 0
      · have : j = 0 := by omega
        subst this; simp [Addr.add]
      · rw [Addr.add, if_neg hz]
    · have := (hx j (by omega)).2.1
      rw [hs (by omega), (hq j hj).2.1] at this
      rw [← this, Addr.add, if_neg (by omega), Nat.add_assoc]
end Go.Proofs.Qxb6608984a
