import Derived.Test.Qxb6615073aDoorWatch
import Derived.LaidEqlPtr
import Derived.StillTailTactics
namespace Go.Proofs.Qxb6615073aDoor

/-- A quiet walk in one world is a still one. -/
theorem wpStill_of_quiet {P : Program} {ops : Array Oper} {W : World} {Q : Act → Prop} : ∀ (l : List Oper) (a : Act), wpQuiet P ops (fun w' => w' = W) Q l a → wpStill P ops W Q l a
  | [], _, h => h
  | o :: rest, a, h => by
    unfold wpQuiet at h
    unfold wpStill
    split
    · rename_i hw
      rw [if_pos hw] at h
      obtain ⟨v, hq, hn⟩ := h
      have h1 := hq W rfl
      unfold Oper.quietAt at h1
      unfold Oper.still
      generalize (execOp a.eval o).run P W = r at h1 ⊢
      cases r with
      | ok x w' =>
        cases x with
        | value u => exact ⟨h1.1, by rw [h1.2]; exact wpStill_of_quiet rest _ hn⟩
        | skip => exact ⟨h1.1, by rw [← h1.2]; exact wpStill_of_quiet rest _ hn⟩
        | enter f args => exact ⟨h1.1, v, h1.2, wpStill_of_quiet rest _ hn⟩
        | _ => exact h1.elim
      | halt x w' => exact h1.elim
    · rename_i hw
      rw [if_neg hw] at h
      exact wpStill_of_quiet rest _ h

/-- A region that draws its order: its first n operations only read; what follows them waits for all of them, and is walked in the order of the text. -/
theorem wp_region_quiet_tail {P : Program} {id : Nat} {Q : Exit → Act → World → Prop} {a : Act} {w : World} {l : List Oper} (n : Nat) (hm : P.follows .mixedOrders = true) (hB : Region.lexTailB .any l.toArray n = true)
    (h : wpQuiet P l.toArray (fun w' => w' = w.drew) (fun a' => wpList P l.toArray Q (l.drop n) a' w.drew) (l.take n) a) : (Code.region id l.toArray true).wp P Q a w :=
  wp_region_still_tail n hm hB (wpStill_of_quiet _ _ h)
end Go.Proofs.Qxb6615073aDoor
