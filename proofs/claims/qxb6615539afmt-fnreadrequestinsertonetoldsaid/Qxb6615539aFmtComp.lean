import Derived.Test.Qxb6615539aFmtEq
namespace Go.Proofs.Qxb6615539aFmt
open Go.RowKit
open Extern.Stop (cell)
set_option linter.unusedSimpArgs false

/-- Every message carries r's tag. -/
def AllEq (R : Nat → Rep) (n : Nat) (r : Rep) : Prop := ∀ j, j < n → repEq (R j) r = true

def IdxPost (R : Nat → Rep) (n : Nat) (r : Rep) (w : World) (e : Ending) (w' : World) : Prop := ∃ z : Int, e = .returned (.int .i64 z) ∧ (0 ≤ z ↔ ¬ AllEq R n r) ∧ Below w.heap.size w w'

set_option maxHeartbeats 1000000 in
theorem index_any (lo b off n c : Nat) (R : Nat → Rep) (q p : Nat) (key : ByteArray) (mode : Int) (r : Rep) (f : Bool) (w : World) (h : MsgIn w lo (some ⟨b, off, none⟩) b off n R) (hn2 : n ≤ 1048576)
    (hq : w.cell? ⟨q, 0, none⟩ = some (.pointer (some ⟨p, 0, none⟩))) (hr : ReadAt w p key mode r f) :
    Calls Tryf.prog 41 #[.slice (some ⟨b, off, none⟩) n c, .func (.func 33) #[] #[.pointer (some ⟨q, 0, none⟩)]] w (IdxPost R n r w) := by
  have H : Hid _ := h
  have HQ : Hid _ := hq
  have HR : Hid (ReadAt w p key mode r f) := hr
  clear h hq hr
  go_enter Tryf.func41, Tryf.ntmps41
  go_wp2_with fail
  go_loopw [8] (fun i wr => ∃ k : Nat, k ≤ n ∧ i = .int .i64 k ∧ AllEq R k r ∧ Below w.heap.size w wr) (fun i _ => n - (intOf i).toNat)
  case atStart => exact ⟨0, Nat.zero_le _, rfl, fun j hj => by omega, Below.refl _ _⟩
  case round =>
    obtain ⟨k, hk, rfl, hA, hbel⟩ := hrel
    have HA : Hid _ := hA
    clear hA
    by_cases hlt : k < n
    · obtain ⟨vk, hrk, _⟩ := Below.msg (H.out.rep k hlt) hbel
      have HRk : Hid _ := hrk
      clear hrk
      go_wp2_with (first | refine wpList_get43 rfl _ rfl _ _ (R k) vk rfl HRk.out ?_)
      go_at_call 33
      refine (otherFn_any (R k) vk q p key mode r f wr (cell_later hbel HQ.out) (Below.read HR.out hbel)).mono ?_
      rintro e w1 ⟨rfl, hb1⟩
      have hb2 : Below w.heap.size w w1 := hbel.trans (hb1.mono hbel.size)
      by_cases hE : repEq (R k) r = true
      · rw [hE]
        go_wp2_with fail
        go_roundw
        case rel =>
          refine ⟨k + 1, by omega, by go_num, fun j hj => ?_, hb2⟩
          by_cases e : j = k
          · subst e; exact hE
          · exact HA.out j (by omega)
        case measure => simp [intOf]; omega
      · have hE' : repEq (R k) r = false := by simpa using hE
        rw [hE']
        go_wp2_with fail
        go_ret
        exact ⟨_, rfl, ⟨fun _ h => hE (h k hlt), fun _ => by omega⟩, hb2⟩
    · go_wp2_with fail
      go_ret
      refine ⟨_, rfl, ⟨fun h => by omega, fun h => ?_⟩, hbel⟩
      exact absurd (fun j hj => HA.out j (by omega)) h
end Go.Proofs.Qxb6615539aFmt
