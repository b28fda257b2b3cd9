import Derived.Test.Qxb6615539aFmtIdx
namespace Go.Proofs.Qxb6615539aFmt
open Go.RowKit
open Extern.Stop (cell)
set_option linter.unusedSimpArgs false

/-- The step of an operation that is wanted. -/
theorem wpList_valueIf {ops : Array Oper} {rest : List Oper} {op : Oper} {a : Act} {w : World} {Q : Exit → Act → World → Prop} {v : Value} (hw : Region.wanted op (yielded ops a.tmps) = true) (h : (execOp a.eval op).run Tryf.prog w = .ok (.value v) w)
    (hn : wpList Tryf.prog ops Q rest (a.put op.dst v) w) : wpList Tryf.prog ops Q (op :: rest) a w := by
  unfold wpList
  rw [if_pos hw]
  refine .inl ?_
  unfold Oper.wp
  rw [h]
  exact hn

/-! ### 34: zzSameBytes -/
theorem same_nil (w : World) : Calls Tryf.prog 34 #[.slice none 0 0, .slice none 0 0] w (BoolPost true w) := by
  have hq := fun w => Lib.run_eql_slice_nil (P := Tryf.prog) w 40 5 none 0 0 0 0 Tryf.underlying40
  go_enter Tryf.func34, Tryf.ntmps34
  go_wp2
  go_loopw [5] (fun i wr => i = .int .i64 0 ∧ wr = w) (fun i _ => 0)
  case atStart => exact ⟨rfl, rfl⟩
  case round =>
    obtain ⟨rfl, rfl⟩ := hrel
    go_wp2
    go_ret
    exact ⟨rfl, Below.refl _ _⟩

theorem same_some (a1 a2 : Addr) (b1 o1 c1 b2 o2 c2 : Nat) (bs : List UInt8) (w : World) (hn : bs.length ≤ 1048576) (ha1 : 0 < bs.length → a1 = ⟨b1, o1, none⟩) (hr1 : w.rangeAt b1 o1 (bs.map cell)) (ha2 : 0 < bs.length → a2 = ⟨b2, o2, none⟩) (hr2 : w.rangeAt b2 o2 (bs.map cell)) :
    Calls Tryf.prog 34 #[.slice (some a1) bs.length c1, .slice (some a2) bs.length c2] w (BoolPost true w) := by
  have hq1 := fun w => Lib.run_eql_slice_nil (P := Tryf.prog) w 40 5 (some a1) bs.length c1 0 0 Tryf.underlying40
  have hq2 := fun w => Lib.run_eql_slice_nil (P := Tryf.prog) w 40 5 (some a2) bs.length c2 0 0 Tryf.underlying40
  have HR1 : Hid (w.rangeAt b1 o1 (bs.map cell)) := hr1
  have HR2 : Hid (w.rangeAt b2 o2 (bs.map cell)) := hr2
  have HA1 : Hid (0 < bs.length → a1 = ⟨b1, o1, none⟩) := ha1
  have HA2 : Hid (0 < bs.length → a2 = ⟨b2, o2, none⟩) := ha2
  clear hr1 hr2 ha1 ha2
  generalize hN : bs.length = n at *
  have HN : Hid (bs.length = n) := hN
  clear hN
  go_enter Tryf.func34, Tryf.ntmps34
  go_wp2
  go_loopw [5] (fun i wr => ∃ k : Nat, k ≤ n ∧ i = .int .i64 k ∧ Below w.heap.size w wr) (fun i _ => n - (intOf i).toNat)
  case atStart => exact ⟨0, Nat.zero_le _, rfl, Below.refl _ _⟩
  case round =>
    obtain ⟨k, hk, rfl, hbel⟩ := hrel
    by_cases hlt : k < n
    · obtain rfl := HA1.out (by omega)
      obtain rfl := HA2.out (by omega)
      have hkb : k < bs.length := by rw [HN.out]; omega
      have k1 : wr.cell? ⟨b1, o1 + k, none⟩ = some (cell (bs.getD k 0)) := cell_later hbel (HR1.out k _ (by simp [List.getD, hkb]))
      have k2 : wr.cell? ⟨b2, o2 + k, none⟩ = some (cell (bs.getD k 0)) := cell_later hbel (HR2.out k _ (by simp [List.getD, hkb]))
      obtain ⟨z, hz⟩ : ∃ z, cell (bs.getD k 0) = .int .u8 z := ⟨_, rfl⟩
      rw [hz] at k1 k2
      have hk0 : (0 : Int) ≤ (k : Int) := by omega
      have hk2 : (k : Int) < (n : Int) := by omega
      have F1 : ∀ w', w' = wr.drew → w'.cell? ⟨b1, o1 + k, none⟩ = some (.int .u8 z) := fun w' e => by rw [e]; simpa using k1
      have F2 : ∀ w', w' = wr.drew → w'.cell? ⟨b2, o2 + k, none⟩ = some (.int .u8 z) := fun w' e => by rw [e]; simpa using k2
      clear k1 k2 hz hkb
      go_wp2_with fail
      refine wp_region_floatl (fun w' => w' = wr.drew) [(0, 9)] [] (by kernel_rfl) (by kernel_rfl) rfl ?_
      intro OPS hO
      clear hO
      simp only [segs, List.drop_succ_cons, List.drop_zero, List.take_succ_cons, List.take_zero, List.cons_append, List.nil_append, List.append_nil]
      repeat (apply take_step rfl; (case h => (intro wx hx; go_simp; try with_reducible rfl)); try simp only [Act.put, List.setIfInBounds_toArray, List.set_cons_zero, List.set_cons_succ])
      refine take_nil (rest_nil ?_)
      clear F1 F2
      go_wp2_with fail
      go_roundw
      case rel => exact ⟨k + 1, by omega, by go_num, hbel.drew⟩
      case measure => simp [intOf]; omega
    · go_wp2_with fail
      go_ret
      exact ⟨rfl, hbel⟩

theorem same_any (v1 v2 : Value) (x : Option (List UInt8)) (w : World) (h1 : ValIn w v1 x) (h2 : ValIn w v2 x) (hn : (x.getD []).length ≤ 1048576) : Calls Tryf.prog 34 #[v1, v2] w (BoolPost true w) := by
  cases x with
  | none => cases h1; cases h2; exact same_nil w
  | some bs =>
    obtain ⟨a1, c1, b1, o1, rfl, ha1, hr1⟩ := h1
    obtain ⟨a2, c2, b2, o2, rfl, ha2, hr2⟩ := h2
    exact same_some a1 a2 b1 o1 c1 b2 o2 c2 bs w hn ha1 hr1 ha2 hr2

end Go.Proofs.Qxb6615539aFmt
