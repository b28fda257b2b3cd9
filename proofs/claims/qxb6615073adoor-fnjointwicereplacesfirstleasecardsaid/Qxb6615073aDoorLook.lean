import Derived.Test.Qxb6615073aDoorJoin3
namespace Go.Proofs.Qxb6615073aDoor
open Go.RowKit

/-! ## The law's looks into the records -/
set_option maxRecDepth 100000 in
theorem last_any (c : Nat) (L : Int) (w : World) (h : w.cell? ⟨c, 9, none⟩ = some (.int .i64 L)) : Calls Tryd.prog 10 #[ptr c] w fun e w' => e = .returned (.int .i64 L) ∧ w' = w := by
  unfold ptr
  go_enter Tryd.func10, Tryd.ntmps10
  go_wp2
  go_ret
  exact ⟨rfl, rfl⟩
set_option maxRecDepth 100000 in
theorem changes_any (c : Nat) (C : Int) (w : World) (h : w.cell? ⟨c, 10, none⟩ = some (.int .u64 C)) : Calls Tryd.prog 16 #[ptr c] w fun e w' => e = .returned (.int .u64 C) ∧ w' = w := by
  unfold ptr
  go_enter Tryd.func16, Tryd.ntmps16
  go_wp2
  go_ret
  exact ⟨rfl, rfl⟩
set_option maxRecDepth 100000 in
theorem err_any (T : Nat) (w : World) (h : w.cell? ⟨T, 3, none⟩ = some .nilIface) : Calls Tryd.prog 11 #[ptr T] w fun e w' => e = .returned .nilIface ∧ w' = w := by
  unfold ptr
  go_enter Tryd.func11, Tryd.ntmps11
  go_wp2
  go_ret
  exact ⟨rfl, rfl⟩
set_option maxRecDepth 100000 in
theorem grantEpoch_any (T : Nat) (ge : Int) (w : World) (h : w.cell? ⟨T, 5, none⟩ = some (.int .i64 ge)) : Calls Tryd.prog 12 #[ptr T] w fun e w' => e = .returned (.int .i64 ge) ∧ w' = w := by
  unfold ptr
  go_enter Tryd.func12, Tryd.ntmps12
  go_wp2
  go_ret
  exact ⟨rfl, rfl⟩
set_option maxRecDepth 100000 in
theorem hasMember_any (K : Cx) (cur : Nat) (w : World) (h : MembersAt K cur w) (hn : K.nm.size ≤ maxLen) (c6 : w.cell? ⟨K.c, 6, none⟩ = some (.map (some K.M))) : Calls Tryd.prog 13 #[ptr K.c, .string K.nm] w fun e w' => e = .returned (.bool true) ∧ w' = w := by
  have hl : (Instr.lookup 49 (.map (some K.M)) (.string K.nm) true).run Tryd.prog w = .ok (.tuple #[.pointer (some ⟨cur, 0, none⟩), .bool true]) w := h.look hn true
  clear h
  unfold ptr
  go_enter Tryd.func13, Tryd.ntmps13
  go_wp2
  go_ret
  exact ⟨rfl, rfl⟩
set_option maxRecDepth 100000 in
theorem memberEpoch_any (K : Cx) (cur : Nat) (ep : Int) (w : World) (h : MembersAt K cur w) (hn : K.nm.size ≤ maxLen) (c6 : w.cell? ⟨K.c, 6, none⟩ = some (.map (some K.M))) (m1 : w.cell? ⟨cur, 1, none⟩ = some (.int .i64 ep)) : Calls Tryd.prog 14 #[ptr K.c, .string K.nm] w fun e w' => e = .returned (.int .i64 ep) ∧ w' = w := by
  have hl : (Instr.lookup 49 (.map (some K.M)) (.string K.nm) false).run Tryd.prog w = .ok (.pointer (some ⟨cur, 0, none⟩)) w := h.look hn false
  clear h
  unfold ptr
  go_enter Tryd.func14, Tryd.ntmps14
  go_wp2
  go_ret
  exact ⟨rfl, rfl⟩
set_option maxRecDepth 100000 in
theorem hasReplaced_any (K : Cx) (ep : Int) (w : World) (h : RepAt K ep w) (he : (Lit.int .i64 ep).wf = true) (c8 : w.cell? ⟨K.c, 8, none⟩ = some (.map (some K.P))) : Calls Tryd.prog 15 #[ptr K.c, .int .i64 ep] w fun e w' => e = .returned (.bool true) ∧ w' = w := by
  obtain ⟨v, hl⟩ := h.look he
  clear h he
  unfold ptr
  go_enter Tryd.func15, Tryd.ntmps15
  go_wp2
  go_ret
  exact ⟨rfl, rfl⟩

/-- Another epoch than the current lease's: it may not wait. -/
theorem mayWait_no (K : Cx) (cur : Nat) (ep e now : Int) (w : World) (h : MembersAt K cur w) (hn : K.nm.size ≤ maxLen) (c6 : w.cell? ⟨K.c, 6, none⟩ = some (.map (some K.M))) (m1 : w.cell? ⟨cur, 1, none⟩ = some (.int .i64 ep)) (hne : (ep == e) = false) :
    Calls Tryd.prog 21 #[ptr K.c, .string K.nm, .int .i64 e, .int .i64 now] w (Ret (.bool false) w) := by
  have hl : (Instr.lookup 49 (.map (some K.M)) (.string K.nm) true).run Tryd.prog w = .ok (.tuple #[.pointer (some ⟨cur, 0, none⟩), .bool true]) w := h.look hn true
  clear h
  unfold ptr
  go_enter Tryd.func21, Tryd.ntmps21
  go_wp2
  go_quiet (fail)
  go_wp2
  go_ret
  exact ⟨rfl, below_drewN (Below.refl _ _) _⟩

set_option maxRecDepth 100000 in
set_option maxHeartbeats 2000000 in
/-- The current lease, told of all, nothing pending, not fenced: it may wait. -/
theorem mayWait_yes (K : Cx) (cur : Nat) (ep la now L ch : Int) (cand : Value) (jd : Bool) (en : Int) (w : World) (h : MembersAt K cur w) (hn : K.nm.size ≤ maxLen) (hR : RecAt K L w) (hm : MemRec cur K.nm ep la 0 false ch cand false jd en w) (hst : stateOf K.l K.d la 0 now = 0) :
    Calls Tryd.prog 21 #[ptr K.c, .string K.nm, .int .i64 ep, .int .i64 now] w (Ret (.bool true) w) := by
  have hl : (Instr.lookup 49 (.map (some K.M)) (.string K.nm) true).run Tryd.prog w = .ok (.tuple #[.pointer (some ⟨cur, 0, none⟩), .bool true]) w := h.look hn true
  have c0 := hR.c0
  have c1 := hR.c1
  have c6 := hR.c6
  have m1 : w.cell? ⟨cur, 1, none⟩ = some (.int .i64 ep) := by rw [cell_of hm]; rfl
  have m2 : w.cell? ⟨cur, 2, none⟩ = some (.int .i64 la) := by rw [cell_of hm]; rfl
  have m3 : w.cell? ⟨cur, 3, none⟩ = some (.int .i64 0) := by rw [cell_of hm]; rfl
  have m4 : w.cell? ⟨cur, 4, none⟩ = some (.bool false) := by rw [cell_of hm]; rfl
  have m7 : w.cell? ⟨cur, 7, none⟩ = some (.slice none 0 0) := by rw [cell_of hm]; rfl
  have m8 : w.cell? ⟨cur, 8, none⟩ = some (.bool false) := by rw [cell_of hm]; rfl
  have HST : Hid (stateOf K.l K.d la 0 now = 0) := hst
  clear h hR hm hst
  unfold ptr
  go_enter Tryd.func21, Tryd.ntmps21
  go_wp2
  refine wp_region_barrier 35 (by kernel_rfl) (by kernel_rfl) ?_
  simp only [List.take_succ_cons, List.take_zero, List.drop_succ_cons, List.drop_zero]
  repeat (go_big_quiet_step (fail))
  refine wpQuiet_nil ?_
  go_wp2_with (go_at_call 29; refine (stateOf_any _ _ _ _ _ _ _).mono ?_; rintro e w1 ⟨rfl, hb⟩; rw [HST.out])
  refine onlyN_mk ?_
  show wpQuiet _ _ _ _ _ _
  repeat (go_big_quiet_step ((go_at_call 23; exact Calls.quiet_of_same (over_any _ _))))
  refine wpQuiet_nil ?_
  intro v hv
  obtain ⟨nq, rfl⟩ := hv
  go_wp2
  go_ret
  exact ⟨rfl, below_drewN (below_undrew hb) _⟩
end Go.Proofs.Qxb6615073aDoor
