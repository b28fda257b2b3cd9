import Derived.Test.Qxb6615539aFmtOne
namespace Go.Proofs.Qxb6615539aFmt
open Go.RowKit
open Extern.Stop (cell)
set_option linter.unusedSimpArgs false

/-! ### 25: ZZReadFields -/
def FieldsPost (key : ByteArray) (mode : Int) (r : Rep) (f : Bool) (w : World) (e : Ending) (w' : World) : Prop :=
  ∃ v, e = .returned (.tuple #[.string key, .int .u8 mode, .agg (msgCells r v).toArray, .bool f]) ∧ ValIn w' v r.val ∧ Below w.heap.size w w'

theorem ret_fields {fn : Func} {a : Act} {w : World} (hres : fn.results = #[.tmp 2, .tmp 3, .cell 4 43, .tmp 5]) (b : Nat) (x y z : Value) (hx : a.tmps.getD 2 undef = x) (hy : a.tmps.getD 3 undef = y) (hz : a.tmps.getD 5 undef = z) (hc : a.tmps.getD 4 undef = .pointer (some ⟨b, 0, none⟩)) (r : Rep) (v : Value) (hr : w.rangeAt b 0 (msgCells r v)) :
    (results fn a.tmps).run Tryf.prog w = .ok (.tuple #[x, y, .agg (msgCells r v).toArray, z]) w := by
  have h := run_loadVar_mid (P := Tryf.prog) w b 0 43 (msgCells r v) _ hr Tryf.underlying43 rfl (by rw [msgCells_len]; exact info43)
  have hx' : a.tmps[2]?.getD undef = x := by simpa using hx
  have hy' : a.tmps[3]?.getD undef = y := by simpa using hy
  have hz' : a.tmps[5]?.getD undef = z := by simpa using hz
  have hc' : a.tmps[4]?.getD undef = .pointer (some ⟨b, 0, none⟩) := by simpa using hc
  simp [results, hres, hx', hy', hz', hc', asAddr, h]

set_option maxHeartbeats 2000000 in
theorem fields_any (p : Nat) (key : ByteArray) (mode : Int) (r : Rep) (f : Bool) (w : World) (h : ReadAt w p key mode r f) : Calls Tryf.prog 25 #[.pointer (some ⟨p, 0, none⟩)] w (FieldsPost key mode r f w) := by
  obtain ⟨v, h1, hv, _, _⟩ := h
  have I := readIs h1
  have F0 : ∀ w', Below w.heap.size w w' → w'.cell? ⟨p, 0, none⟩ = some (.string key) := fun w' hw => cell_later hw I.c0
  have F1 : ∀ w', Below w.heap.size w w' → w'.cell? ⟨p, 1, none⟩ = some (.int .u8 mode) := fun w' hw => cell_later hw I.c1
  have F2 : ∀ w', Below w.heap.size w w' → w'.rangeAt p 2 (msgCells r v) := fun w' hw => Below.range I.msg hw
  have F62 : ∀ w', Below w.heap.size w w' → w'.cell? ⟨p, 62, none⟩ = some (.bool f) := fun w' hw => cell_later hw I.c62
  have i43 : (Tryf.prog.info? 43).map (·.size) = some (msgCells r v).length := by rw [msgCells_len]; exact info43
  have HV : Hid (ValIn w v r.val) := hv
  clear h1 I hv
  go_enter Tryf.func25, Tryf.ntmps25
  go_wp2_with (first | (refine wpList_new 4 rfl rfl 43 60 rfl zero43 ?_; intro W N))
  have hbW : Below w.heap.size w W.drew := N.out.bel.drew
  refine wp_region_script (fun w' => Below w.heap.size w w') [(true, 0), (true, 1), (true, 2), (true, 3), (true, 4), (true, 5), (true, 6), (true, 7), (true, 8), (true, 9), (true, 10), (true, 11), (true, 12), (true, 13), (true, 14), (true, 15), (false, 16), (false, 17), (false, 18), (false, 19)] [] (by kernel_rfl) (by kernel_rfl) hbW ?_
  intro OPS hO
  clear hO
  simp only [scOps, List.getElem?_cons_succ, List.getElem?_cons_zero, Act.put, List.setIfInBounds_toArray, List.set_cons_zero, List.set_cons_succ]
  repeat (apply sc_take rfl; (case h => (intro wx hx; first | exact exec_load_mid 43 _ rfl _ _ rfl _ _ (F2 wx hx) Tryf.underlying43 rfl i43 | (go_simp; try with_reducible rfl))); try simp only [Act.put, List.setIfInBounds_toArray, List.set_cons_zero, List.set_cons_succ])
  clear F0 F1 F2 F62 i43
  refine sc_must ?_
  go_wp2_with fail
  refine onlyN_mk ⟨hbW, ?_⟩
  refine sc_must ?_
  go_wp2_with fail
  refine onlyN_mk ⟨hbW, ?_⟩
  refine sc_must ?_
  refine wpList_put43 rfl _ _ rfl w.heap.size 0 r v rfl rfl (valIn_one HV.out) ((World.there_drew _ _ _ _).2 N.out.th) ?_
  have hr := World.rangeAt_setCells_same W.drew w.heap.size 0 (msgCells r v) (by rw [msgCells_len]; exact (World.there_drew _ _ _ _).2 N.out.th)
  have hb := Below.setCells (Nat.le_refl _) (msgCells r v) 0 _ hbW
  generalize W.drew.setCells w.heap.size 0 (msgCells r v) = w3 at hr hb ⊢
  have HR : Hid _ := hr
  clear hr N
  go_wp2_with fail
  refine onlyN_mk ⟨hb, ?_⟩
  refine sc_must ?_
  go_wp2_with fail
  refine onlyN_mk ⟨hb, sc_nil ?_⟩
  go_wp2_with fail
  refine bodyPost_ret (ret_fields rfl w.heap.size (.string key) (.int .u8 mode) (.bool f) rfl rfl rfl rfl r v HR.out) rfl ?_
  exact ⟨v, rfl, Below.val HV.out hb, hb⟩
end Go.Proofs.Qxb6615539aFmt
