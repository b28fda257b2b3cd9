import Derived.Test.Qxb6615539aFmtMsgs
import Derived.Test.Qxb6615539aFmtNew
namespace Go.Proofs.Qxb6615539aFmt
open Go.RowKit
open Extern.Stop (cell)

/-- A read, at the head of block p. -/
def ReadAt (w : World) (p : Nat) (key : ByteArray) (mode : Int) (r : Rep) (f : Bool) : Prop :=
  ∃ v, w.rangeAt p 0 (readCells key mode (msgCells r v) f) ∧ ValIn w v r.val ∧ w.there p 0 63 ∧ (∀ q n c, v = .slice (some q) n c → q.block ≠ p)

theorem readCells_len (key : ByteArray) (mode : Int) (r : Rep) (v : Value) (f : Bool) : (readCells key mode (msgCells r v) f).length = 63 := by simp [readCells, msgCells_len]

theorem Below.read {w w' : World} {p : Nat} {key : ByteArray} {mode : Int} {r : Rep} {f : Bool} (h : ReadAt w p key mode r f) (hb : Below w.heap.size w w') : ReadAt w' p key mode r f := by
  obtain ⟨v, h1, h2, h3, h4⟩ := h
  exact ⟨v, Below.range h1 hb, Below.val h2 hb, there_below h3 hb, h4⟩

/-- The parts of a read. -/
structure ReadIs (w : World) (p : Nat) (key : ByteArray) (mode : Int) (r : Rep) (v : Value) (f : Bool) : Prop where
  c0 : w.cell? ⟨p, 0, none⟩ = some (.string key)
  c1 : w.cell? ⟨p, 1, none⟩ = some (.int .u8 mode)
  msg : w.rangeAt p 2 (msgCells r v)
  c62 : w.cell? ⟨p, 62, none⟩ = some (.bool f)

theorem readIs {w : World} {p : Nat} {key : ByteArray} {mode : Int} {r : Rep} {v : Value} {f : Bool} (h : w.rangeAt p 0 (readCells key mode (msgCells r v) f)) : ReadIs w p key mode r v f := by
  have h2 : w.rangeAt p 2 (msgCells r v ++ [.bool f]) := fun j x hj => by
    have := h (j + 2) x (by simpa [readCells] using hj)
    rwa [show 0 + (j + 2) = 2 + j by omega] at this
  obtain ⟨h3, h4⟩ := range_app h2
  rw [msgCells_len] at h4
  exact ⟨h 0 _ rfl, h 1 _ rfl, h3, h4 0 _ rfl⟩

theorem msg_fields {w : World} {b o : Nat} {r : Rep} {v : Value} (h : w.rangeAt b o (msgCells r v)) : FieldsAt w b o r v ∧ w.cell? ⟨b, o + 59, none⟩ = some (.slice none 0 0) := by
  obtain ⟨h1, h2⟩ := range_app h
  rw [repCells_len] at h2
  exact ⟨fieldsAt h1, h2 0 _ rfl⟩

theorem tag_range {w : World} {b o : Nat} {n : Int} {u : Id16} (h1 : w.cell? ⟨b, o, none⟩ = some (.int .u64 n)) (h2 : w.rangeAt b (o + 1) u.cells) : w.rangeAt b o (tagCells n u) := fun j x hj => by
  cases j with
  | zero => simp [tagCells] at hj; subst hj; exact h1
  | succ j =>
    have := h2 j x (by simpa [tagCells] using hj)
    rwa [show o + 1 + j = o + (j + 1) by omega] at this

/-- A variable of many cells as the one result. -/
theorem ret_cell {fn : Func} {a : Act} {w : World} (k : Nat) (t : TypeId) (hres : fn.results = #[.cell k t]) (b o : Nat) (hx : a.tmps.getD k undef = .pointer (some ⟨b, o, none⟩)) (cs : List Value) (d : TypeDesc) (hc : w.rangeAt b o cs)
    (hu : Tryf.prog.underlying t = some d) (hd : d.isRow = true) (hi : (Tryf.prog.info? t).map (·.size) = some cs.length) : (results fn a.tmps).run Tryf.prog w = .ok (.agg cs.toArray) w := by
  have h := run_loadVar_mid (P := Tryf.prog) w b o t cs d hc hu hd hi
  have hx' : a.tmps[k]?.getD undef = .pointer (some ⟨b, o, none⟩) := by simpa using hx
  simp [results, hres, hx', asAddr, h]

/-- A new variable of many cells, whatever its zero is. -/
theorem wpList_alloc_wide {ops : Array Oper} {rest : List Oper} {op : Oper} {a : Act} {w : World} {Q : Exit → Act → World → Prop} (hg : op.guard = none) (ty n : Nat) (ho : op.op = .alloc ty)
    (hz : (Tryf.prog.info? ty).map (fun i => i.zero.map (·.cells.size)) = some (some n))
    (h : ∀ zc : Array Value, zc.size = n → wpList Tryf.prog ops Q rest (a.put op.dst (.pointer (some ⟨w.heap.size, 0, none⟩))) (w.alloc (.cells zc ty))) : wpList Tryf.prog ops Q (op :: rest) a w := by
  obtain ⟨i, hi, hzz⟩ := Option.map_eq_some_iff.1 hz
  obtain ⟨z, hz1, hz2⟩ := Option.map_eq_some_iff.1 hzz
  have hzv : ∀ w, (zeroValue ty).run Tryf.prog w = .ok z w := fun w => by simp [zeroValue, typeInfo, hi, hz1]
  refine wpList_plain hg fun _ hK => ?_
  unfold Oper.wp execOp
  simp only [ho]
  simp [Instr.alloc, hzv, newVar, newRow]
  exact hK _ _ (h z.cells hz2)

theorem exec_buildAsk {op : Oper} {a : Act} {w : World} (x : Operand) (ho : op.op = .build 43 #[(1, .const (.int .u8 2)), (2, x)]) (key : ByteArray) (hx : a.eval x = .string key) :
    (execOp a.eval op).run Tryf.prog w = .ok (.value (.agg (msgCells (askRep key) (.slice none 0 0)).toArray)) w := by
  unfold execOp
  simp only [ho, List.map_toArray, List.map_cons, List.map_nil, hx, show a.eval (.const (.int .u8 2)) = .int .u8 2 from rfl, Sem.run_bind, built43ask, Result.andThen_ok, Sem.run_pure]

/-! ### 13: Request -/
def ReqPost (m : Rep) (w : World) (e : Ending) (w' : World) : Prop := ∃ v, e = .returned (.agg (msgCells m v).toArray) ∧ ValIn w' v m.val ∧ Below w.heap.size w w'

set_option maxHeartbeats 1000000 in
theorem req_ask (p : Nat) (key : ByteArray) (mode : Int) (r : Rep) (w : World) (h : ReadAt w p key mode r false) : Calls Tryf.prog 13 #[.pointer (some ⟨p, 0, none⟩)] w (ReqPost (askRep key) w) := by
  obtain ⟨v, h1, _, _, _⟩ := h
  have I := readIs h1
  have c0 := I.c0
  have c62 := I.c62
  have hp : p < w.heap.size := World.block_lt_of_cell? w _ c0
  have hp1 : p ≠ w.heap.size := by omega
  clear I h1
  have hz : (Tryf.prog.info? 43).map (fun i => i.zero.map (·.cells.size)) = some (some 60) := by kernel_rfl
  have hi : (Tryf.prog.info? 43).map (·.size) = some (msgCells (askRep key) (.slice none 0 0)).toArray.size := by rw [show (msgCells (askRep key) (.slice none 0 0)).toArray.size = 60 from msgCells_len _ _]; exact info43
  have h1c := all_oneCell_toArray (msgCells_one (askRep key) (.slice none 0 0) rfl)
  have HZ : Hid _ := hz
  clear hz
  go_enter Tryf.func13, Tryf.ntmps13
  go_wp2_with (first | (refine wpList_alloc_wide rfl 43 60 rfl HZ.out ?_; intro zc hzc) | refine wpList_value rfl (exec_buildAsk _ rfl key rfl) ?_ | (refine wpList_store_mid rfl 43 _ _ rfl _ _ _ rfl rfl (there_new _ _ _ _ _ (by rw [hzc, List.size_toArray, msgCells_len]; exact Nat.le_refl _)) hi h1c ?_; rw [List.toList_toArray]))
  refine bodyPost_ret (ret_cell 2 43 rfl w.heap.size 0 rfl (msgCells (askRep key) (.slice none 0 0)) _ (World.rangeAt_setCells_same _ _ _ _ (there_new _ _ _ _ _ (by rw [hzc, msgCells_len]; exact Nat.le_refl _))) Tryf.underlying43 rfl (by rw [msgCells_len]; exact info43)) rfl ?_
  exact ⟨_, rfl, rfl, Below.setCells (Nat.le_refl _) _ _ _ ((Below.refl _ _).alloc (Nat.le_refl _) _)⟩

theorem exec_buildStore {op : Oper} {a : Act} {w : World} (x1 x2 x3 x4 : Operand) (ho : op.op = .build 43 #[(1, x1), (2, x2), (3, x3), (4, x4)]) (o : Int) (key : ByteArray) (n : Int) (u : Id16) (p : Option Addr) (l c : Nat) (h1 : a.eval x1 = .int .u8 o) (h2 : a.eval x2 = .string key) (h3 : a.eval x3 = .agg (tagCells n u).toArray) (h4 : a.eval x4 = .slice p l c) :
    (execOp a.eval op).run Tryf.prog w = .ok (.value (.agg (msgCells { zeroRep with op := o, key := key, tn := n, tw := u } (.slice p l c)).toArray)) w := by
  unfold execOp
  simp only [ho, List.map_toArray, List.map_cons, List.map_nil, h1, h2, h3, h4, Sem.run_bind, built43store, Result.andThen_ok, Sem.run_pure]

def opOf (d : Bool) : Int := if d then 4 else 3
theorem storeOf_op (d : Bool) (w : World) : Calls Tryf.prog 30 #[.bool d] w fun e w' => e = .returned (.int .u8 (opOf d)) ∧ w' = w := storeOf_any d w

set_option maxHeartbeats 1000000 in
theorem req_store (p : Nat) (key : ByteArray) (mode : Int) (r : Rep) (w : World) (h : ReadAt w p key mode r true) : Calls Tryf.prog 13 #[.pointer (some ⟨p, 0, none⟩)] w (ReqPost (storeRep key r) w) := by
  obtain ⟨v, h1, hv, _, _⟩ := h
  have I := readIs h1
  have M := (msg_fields I.msg).1
  have c0 := I.c0
  have c62 := I.c62
  have F0 : ∀ w', Below w.heap.size w w' → w'.cell? ⟨p, 0, none⟩ = some (.string key) := fun w' hw => cell_later hw c0
  have F58 : ∀ w', Below w.heap.size w w' → w'.cell? ⟨p, 58, none⟩ = some (.bool r.deleted) := fun w' hw => cell_later hw M.f56
  have F22 : ∀ w', Below w.heap.size w w' → w'.cell? ⟨p, 22, none⟩ = some v := fun w' hw => cell_later hw M.f20
  have F5 : ∀ w', Below w.heap.size w w' → w'.rangeAt p 5 (tagCells r.tn r.tw) := fun w' hw => Below.range (tag_range M.f3 M.f4) hw
  have hp : p < w.heap.size := World.block_lt_of_cell? w _ c0
  have hp1 : p ≠ w.heap.size := by omega
  have hu39 := Tryf.underlying39
  have hi39 : (Tryf.prog.info? 39).map (·.size) = some (tagCells r.tn r.tw).length := by rw [tagCells_len]; exact info39
  have hz : (Tryf.prog.info? 43).map (fun i => i.zero.map (·.cells.size)) = some (some 60) := by kernel_rfl
  have HZ : Hid _ := hz
  obtain ⟨pa, l, c, rfl, hn⟩ := valIn_slice hv
  have HV : Hid (ValIn w (.slice pa l c) r.val) := hv
  clear I h1 M hz hn hv
  obtain ⟨m, hm⟩ : ∃ m : Rep, m = { zeroRep with op := opOf r.deleted, key := key, tn := r.tn, tw := r.tw } := ⟨_, rfl⟩
  have hi : (Tryf.prog.info? 43).map (·.size) = some (msgCells m (.slice pa l c)).toArray.size := by rw [show (msgCells m (.slice pa l c)).toArray.size = 60 from msgCells_len _ _]; exact info43
  have h1c := all_oneCell_toArray (msgCells_one m (.slice pa l c) rfl)
  have HM : Hid (m = { zeroRep with op := opOf r.deleted, key := key, tn := r.tn, tw := r.tw }) := hm
  clear hm
  go_enter Tryf.func13, Tryf.ntmps13
  go_wp2_with (first | (refine wpList_alloc_wide rfl 43 60 rfl HZ.out ?_; intro zc hzc))
  refine wp_region_floatl (fun w' => Below w.heap.size w w') [(0, 5), (6, 14)] [5, 20, 21] (by kernel_rfl) (by kernel_rfl) (((Below.refl _ _).alloc (Nat.le_refl _) _).drew) ?_
  intro OPS hO
  simp only [List.map_cons, List.map_nil, List.getElem?_cons_succ, List.getElem?_cons_zero, List.cons.injEq, and_true] at hO
  obtain ⟨h5, h20, h21⟩ := hO
  simp only [segs, List.drop_succ_cons, List.drop_zero, List.take_succ_cons, List.take_zero, List.cons_append, List.nil_append, List.append_nil]
  have H5 : Hid _ := h5
  have H20 : Hid _ := h20
  have H21 : Hid _ := h21
  clear h5 h20 h21
  repeat (apply take_step rfl; (case h => (intro wx hx; first | exact exec_load_mid 39 _ rfl _ _ rfl _ _ (F5 wx hx) hu39 rfl hi39 | (go_simp; try with_reducible rfl))); try simp only [Act.put, List.setIfInBounds_toArray, List.set_cons_zero, List.set_cons_succ])
  refine take_nil ?_
  refine rest_step H5.out ?_
  go_wp2_with (go_at_call 30; refine (storeOf_op _ _).mono ?_; rintro e w1 ⟨rfl, hw⟩; rw [hw]; clear hw w1)
  refine onlyN_mk ⟨((Below.refl _ _).alloc (Nat.le_refl _) _).drew, ?_⟩
  refine rest_step H20.out ?_
  refine wpList_value rfl (exec_buildStore _ _ _ _ rfl (opOf r.deleted) key r.tn r.tw pa l c rfl rfl rfl rfl) ?_
  rw [← HM.out]
  go_wp2_with fail
  refine onlyN_mk ⟨((Below.refl _ _).alloc (Nat.le_refl _) _).drew, ?_⟩
  refine rest_step H21.out ?_
  have hth : (w.alloc (.cells zc 43)).drew.there w.heap.size 0 (msgCells m (.slice pa l c)).toArray.size := by
    rw [World.there_drew]; exact there_new _ _ _ _ _ (by rw [hzc, show (msgCells m (.slice pa l c)).toArray.size = 60 from msgCells_len _ _]; exact Nat.le_refl _)
  refine wpList_store_mid rfl 43 _ _ rfl _ _ _ rfl rfl hth hi h1c ?_
  rw [List.toList_toArray]
  have hb3 : Below w.heap.size w ((w.alloc (.cells zc 43)).drew.setCells w.heap.size 0 (msgCells m (.slice pa l c))) := Below.setCells (Nat.le_refl _) _ _ _ (((Below.refl _ _).alloc (Nat.le_refl _) _).drew)
  have hr3 := World.rangeAt_setCells_same _ _ _ _ hth
  rw [List.toList_toArray] at hr3
  generalize (w.alloc (.cells zc 43)).drew.setCells w.heap.size 0 (msgCells m (.slice pa l c)) = w3 at hb3 hr3 ⊢
  go_wp2_with fail
  refine onlyN_mk ⟨hb3, rest_nil ?_⟩
  go_wp2_with fail
  rw [HM.out] at hr3
  have hr4 : w3.rangeAt w.heap.size 0 (msgCells (storeRep key r) (.slice pa l c)) := hr3
  refine bodyPost_ret (ret_cell 2 43 rfl w.heap.size 0 rfl (msgCells (storeRep key r) (.slice pa l c)) _ hr4 Tryf.underlying43 rfl (by rw [msgCells_len]; exact info43)) rfl ?_
  exact ⟨_, rfl, Below.val HV.out hb3, hb3⟩
end Go.Proofs.Qxb6615539aFmt
