import Derived.Test.Qxb6615073aDoorLift
import Derived.Test.Qxb6615073aDoorTie
import Derived.Test.Qxb6615073aDoorCards
import Derived.SevenTiedAt
namespace Go.Proofs.Qxb6615073aDoor
open Go

theorem card_holds : Rows.FnJoinTwiceReplacesFirstLeaseCardSaid :=
  Claim7.holds_tied_plain_at .later [] [.sentinel] true (true, "ddcf4b67ef08f3aa4cb6a40909c233bb7a37c14e77113271d9a4507034c3c383") false
    row_holds (fun _ h => by cases h) (by kernel_rfl) (fun _ h => by cases h) fnJoinTwiceReplacesFirstLease_row_tie rfl ⟨rfl, rfl⟩ (by kernel_rfl) rfl
    (fun f fn hf hfn => by
      obtain rfl : f = 3 := Option.some.inj ((show Tryd.prog.funcNamed Rows.fnJoinTwiceReplacesFirstLeaseRow.func = some 3 by kernel_rfl).symm.trans hf) |>.symm
      obtain rfl : fn = Tryd.f3 := (Option.some.inj (Tryd.func3.symm.trans hfn)).symm
      exact ⟨by kernel_rfl, fun j t ht => by
        rw [Tryd.params3] at ht
        have h3 : t = 2 ∨ t = 22 ∨ t = 9 ∨ t = 23 := by
          rcases j with _ | _ | _ | _ | _ | _ | _ | _ | _ | j <;> simp at ht <;> subst ht <;> simp
        rcases h3 with rfl | rfl | rfl | rfl
        · exact (show Tryd.prog.wantsStandIn 2 = false by kernel_rfl)
        · exact (show Tryd.prog.wantsStandIn 22 = false by kernel_rfl)
        · exact (show Tryd.prog.wantsStandIn 9 = false by kernel_rfl)
        · exact (show Tryd.prog.wantsStandIn 23 = false by kernel_rfl)⟩)
    (by kernel_rfl)
end Go.Proofs.Qxb6615073aDoor
