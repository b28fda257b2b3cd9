import Derived.Test.Qxb6608999aScript
import Derived.OpenShut
namespace Go.Proofs.Qxb6608999a
open Go.RowKit
open Extern.Stop (cell)
set_option linter.unusedSimpArgs false

theorem there_new (w : World) (c : Array Value) (t : TypeId) (o n : Nat) (h : o + n ≤ c.size) : (w.alloc (.cells c t)).there w.heap.size o n := fun j hj => by
  refine ⟨?_, ?_⟩
  · rw [cell_of_row _ _ (o + j) _ t (0, 0) (heap_alloc_last w _)]
    simp; omega
  · exact (World.rowIs_alloc w c t (fun i => c[i]!) (fun i hi => by simp [hi])).frozen (o + j)
theorem there_below {w w' : World} {b o n : Nat} (h : w.there b o n) (hb : Below w.heap.size w w') : w'.there b o n := fun j hj => by
  obtain ⟨h1, h2⟩ := h j hj
  obtain ⟨u, hu⟩ := Option.isSome_iff_exists.1 h1
  have hlt := World.block_lt_of_cell? w _ hu
  exact ⟨by rw [hb.cell hlt]; exact h1, by rw [hb.frozen hlt]; exact h2⟩
theorem there_setCell {w : World} {b o n : Nat} (h : w.there b o n) (a : Addr) (v : Value) : (w.setCell a v).there b o n := fun j hj => by
  obtain ⟨h1, h2⟩ := h j hj
  obtain ⟨u, hu⟩ := Option.isSome_iff_exists.1 h1
  refine ⟨?_, by rw [World.frozen?_setCell]; exact h2⟩
  by_cases e : a = ⟨b, o + j, none⟩
  · subst e; rw [World.cell?_setCell_same _ _ _ hu]; rfl
  · rw [World.cell?_setCell_other _ _ _ _ e, hu]; rfl

theorem Id20.at {w : World} {g o : Nat} {u : Id20} (h : w.rangeAt g o u.cells) (k : Nat) (hk : k < 20) : w.cell? ⟨g, o + k, none⟩ = some (.int .u8 (u.l.getD k 0).toNat) := by
  have hl : k < u.l.length := by rw [u.len]; exact hk
  exact h k (cell (u.l.getD k 0)) (by simp [Id20.cells, List.getD, hl])

/-- A new variable of many cells, whatever its zero is. -/
theorem wpList_alloc_wide {ops : Array Oper} {rest : List Oper} {op : Oper} {a : Act} {w : World} {Q : Exit → Act → World → Prop} (hg : op.guard = none) (ty n : Nat) (ho : op.op = .alloc ty)
    (hz : (Try.prog.info? ty).map (fun i => i.zero.map (·.cells.size)) = some (some n))
    (h : ∀ zc : Array Value, zc.size = n → wpList Try.prog ops Q rest (a.put op.dst (.pointer (some ⟨w.heap.size, 0, none⟩))) (w.alloc (.cells zc ty))) : wpList Try.prog ops Q (op :: rest) a w := by
  obtain ⟨i, hi, hzz⟩ := Option.map_eq_some_iff.1 hz
  obtain ⟨z, hz1, hz2⟩ := Option.map_eq_some_iff.1 hzz
  have hzv : ∀ w, (zeroValue ty).run Try.prog w = .ok z w := fun w => by simp [zeroValue, typeInfo, hi, hz1]
  refine wpList_plain hg fun _ hK => ?_
  unfold Oper.wp execOp
  simp only [ho]
  simp [Instr.alloc, hzv, newVar, newRow]
  exact hK _ _ (h z.cells hz2)

/-- The box of an id that a function turns. -/
structure Own20 (w : World) (u : Id20) (wr : World) : Prop where
  range : wr.rangeAt w.heap.size 0 u.cells
  th : wr.there w.heap.size 0 20
  th2 : wr.there (w.heap.size + 1) 0 20
  bel : Below w.heap.size w wr

theorem byte_cell {z : Int} (h : (Lit.int .u8 z).wf = true) : (.int .u8 z : Value) = cell (UInt8.ofNat z.toNat) := by
  have e1 : IntKind.u8.min = 0 := rfl
  have e2 : IntKind.u8.max = 255 := rfl
  simp [Lit.wf] at h
  have h3 : z.toNat < 256 := by omega
  simp only [cell]
  congr 1
  simp [UInt8.toNat_ofNat', Nat.mod_eq_of_lt h3]
  omega

/-- One byte of an id set. -/
theorem range_set {w : World} {g o : Nat} {u : Id20} (h : w.rangeAt g o u.cells) (i : Nat) (hi : i < 20) {z : Int} (hz : (Lit.int .u8 z).wf = true) : ∃ u' : Id20, (w.setCell ⟨g, o + i, none⟩ (.int .u8 z)).rangeAt g o u'.cells := by
  refine ⟨⟨u.l.set i (UInt8.ofNat z.toNat), by rw [List.length_set]; exact u.len⟩, fun j x hj => ?_⟩
  have hjl : j < 20 := by have := (List.getElem?_eq_some_iff.1 hj).1; simpa [Id20.cells, u.len] using this
  by_cases e : j = i
  · subst e
    have hx : x = cell (UInt8.ofNat z.toNat) := by
      simp [Id20.cells, List.getElem?_set, u.len, hjl] at hj
      exact hj.symm
    rw [hx, ← byte_cell hz]
    obtain ⟨y, hy⟩ : ∃ y, w.cell? ⟨g, o + j, none⟩ = some y := ⟨_, Id20.at h j hjl⟩
    exact World.cell?_setCell_same _ _ _ hy
  · rw [World.cell?_setCell_other _ _ _ _ (fun q => by simp at q <;> omega)]
    refine h j x ?_
    rw [← hj]
    simp [Id20.cells, List.getElem?_set, Ne.symm e]

theorem own20_set {w wr : World} {u : Id20} (h : Own20 w u wr) (i : Nat) (hi : i < 20) {z : Int} (hz : (Lit.int .u8 z).wf = true) : ∃ u', Own20 w u' (wr.setCell ⟨w.heap.size, i, none⟩ (.int .u8 z)) := by
  obtain ⟨u', hu⟩ := range_set h.range i hi hz
  rw [Nat.zero_add] at hu
  exact ⟨u', hu, there_setCell h.th _ _, there_setCell h.th2 _ _, h.bel.setCell (p := ⟨w.heap.size, i, none⟩) (Nat.le_refl _) _⟩

theorem Below.setCells {B : Nat} {a : World} {b : Nat} (hb : B ≤ b) : ∀ (vs : List Value) (o : Nat) (w : World), Below B a w → Below B a (w.setCells b o vs)
  | [], _, _, h => h
  | v :: r, o, w, h => by
    rw [World.setCells]
    exact Below.setCells hb r (o + 1) _ (Below.setCell h (p := ⟨b, o, none⟩) hb v)

theorem wpList_put31 {ops : Array Oper} {rest : List Oper} {op : Oper} {a : Act} {w : World} {Q : Exit → Act → World → Prop} (hg : op.guard = none) (x y : Operand) (ho : op.op = .store 31 x y) (b o : Nat) (u : Id20) (hx : a.eval x = .pointer (some ⟨b, o, none⟩)) (hy : a.eval y = .agg u.cells.toArray)
    (ht : w.there b o 20) (h : wpList Try.prog ops Q rest (a.put op.dst undef) (w.setCells b o u.cells)) : wpList Try.prog ops Q (op :: rest) a w := by
  have hsz : u.cells.toArray.size = 20 := u.cells_len
  refine wpList_store_mid hg 31 x y ho b o _ hx hy (by rw [hsz]; exact ht) (by rw [hsz]; exact info31) (all_oneCell_toArray u.one) ?_
  rw [List.toList_toArray]
  exact h
theorem wpList_put32 {ops : Array Oper} {rest : List Oper} {op : Oper} {a : Act} {w : World} {Q : Exit → Act → World → Prop} (hg : op.guard = none) (x y : Operand) (ho : op.op = .store 32 x y) (b o : Nat) (u : Id20) (hx : a.eval x = .pointer (some ⟨b, o, none⟩)) (hy : a.eval y = .agg u.cells.toArray)
    (ht : w.there b o 20) (h : wpList Try.prog ops Q rest (a.put op.dst undef) (w.setCells b o u.cells)) : wpList Try.prog ops Q (op :: rest) a w := by
  have hsz : u.cells.toArray.size = 20 := u.cells_len
  refine wpList_store_mid hg 32 x y ho b o _ hx hy (by rw [hsz]; exact ht) (by rw [hsz]; exact info32) (all_oneCell_toArray u.one) ?_
  rw [List.toList_toArray]
  exact h

theorem ret_cell {fn : Func} {a : Act} {w : World} (k : Nat) (t : TypeId) (hres : fn.results = #[.cell k t]) (b o : Nat) (hx : a.tmps.getD k undef = .pointer (some ⟨b, o, none⟩)) (cs : List Value) (d : TypeDesc) (hc : w.rangeAt b o cs)
    (hu : Try.prog.underlying t = some d) (hd : d.isRow = true) (hi : (Try.prog.info? t).map (·.size) = some cs.length) : (results fn a.tmps).run Try.prog w = .ok (.agg cs.toArray) w := by
  have h := run_loadVar_mid (P := Try.prog) w b o t cs d hc hu hd hi
  have hx' : a.tmps[k]?.getD undef = .pointer (some ⟨b, o, none⟩) := by simpa using hx
  simp [results, hres, hx', asAddr, h]

def MaskPost (w : World) (e : Ending) (w' : World) : Prop := ∃ u' : Id20, e = .returned (.agg u'.cells.toArray) ∧ Below w.heap.size w w'
set_option maxHeartbeats 2000000 in
theorem mask_any (u : Id20) (s : Int) (w : World) (hs : 0 ≤ s ∧ s ≤ 160) : Calls Try.prog 17 #[.agg u.cells.toArray, .int .i64 s] w (MaskPost w) := by
  have hz31 : (Try.prog.info? 31).map (fun i => i.zero.map (·.cells.size)) = some (some 20) := by kernel_rfl
  have HZ : Hid _ := hz31
  clear hz31
  go_enter Try.func17, Try.ntmps17
  go_wp2_with (first | (refine wpList_alloc_wide rfl 31 20 rfl HZ.out ?_; intro zc hzc))
  have st : Own20 w u ((w.alloc (.cells u.cells.toArray 31)).alloc (.cells zc 31)) := by
    have h1 : Below (w.heap.size + 1) (w.alloc (.cells u.cells.toArray 31)) ((w.alloc (.cells u.cells.toArray 31)).alloc (.cells zc 31)) := by
      have := (Below.refl (w.alloc (.cells u.cells.toArray 31)).heap.size (w.alloc (.cells u.cells.toArray 31))).alloc (Nat.le_refl _) (.cells zc 31)
      simpa using this
    have h2 : Below (w.alloc (.cells u.cells.toArray 31)).heap.size (w.alloc (.cells u.cells.toArray 31)) ((w.alloc (.cells u.cells.toArray 31)).alloc (.cells zc 31)) := by simpa using h1
    refine ⟨Below.range (range_box w _ 31) h2, there_below (there_new w _ 31 0 20 (by rw [List.size_toArray, Id20.cells_len]; exact Nat.le_refl _)) h2, ?_, ((Below.refl _ _).alloc (Nat.le_refl _) _).alloc (by simp) _⟩
    have := there_new (w.alloc (.cells u.cells.toArray 31)) zc 31 0 20 (by omega)
    simpa using this
  have ST : Hid _ := st
  clear st
  go_loopw [5] (fun i wr => ∃ k : Nat, (k : Int) ≤ s ∧ i = .int .i64 k ∧ ∃ u' : Id20, Own20 w u' wr) (fun i _ => 160 - (intOf i).toNat)
  case atStart => exact ⟨0, hs.1, rfl, u, ST.out⟩
  case round =>
    obtain ⟨k, hk, rfl, u', hO⟩ := hrel
    have HO : Hid _ := hO
    clear hO ST
    by_cases hlt : (k : Int) < s
    · have hk160 : (k : Int) < 160 := by omega
      obtain ⟨i, hi⟩ : ∃ i, i = 19 - k / 8 := ⟨_, rfl⟩
      have hi20 : i < 20 := by omega
      have c0 := Id20.at HO.out.range (19 - k / 8) (by omega)
      have f0 := (HO.out.th (19 - k / 8) (by omega)).2
      rw [Nat.zero_add] at c0 f0
      go_wp2
      go_roundw
      case rel => exact ⟨k + 1, by omega, by go_num, own20_set HO.out (19 - k / 8) (by omega) (wf_bits _ _ _ _)⟩
      case measure => simp [intOf]; omega
    · have HR : Hid _ := HO.out.range
      go_wp2_with (first | refine wpList_valueIf rfl (exec_load_mid 31 _ rfl _ _ rfl _ _ HR.out Try.underlying31 rfl (id31 _)) ?_ | (refine wpList_put31 rfl _ _ rfl _ _ u' rfl rfl HO.out.th2 ?_; have hr := World.rangeAt_setCells_same wr (w.heap.size + 1) 0 u'.cells (by rw [Id20.cells_len]; exact HO.out.th2); have hb := Below.setCells (show w.heap.size ≤ w.heap.size + 1 by omega) u'.cells 0 _ HO.out.bel; generalize wr.setCells (w.heap.size + 1) 0 u'.cells = w3 at hr hb ⊢; clear HR))
      refine bodyPost_ret (ret_cell 4 31 rfl (w.heap.size + 1) 0 rfl u'.cells _ hr Try.underlying31 rfl (id31 _)) rfl ?_
      exact ⟨u', rfl, hb⟩

/-! ### 18: zzCmp -/
def AnyInt (w : World) (e : Ending) (w' : World) : Prop := (∃ x : Int, e = .returned (.int .i64 x)) ∧ Below w.heap.size w w'
structure Two20 (w : World) (u1 u2 : Id20) (wr : World) : Prop where
  r1 : wr.rangeAt w.heap.size 0 u1.cells
  r2 : wr.rangeAt (w.heap.size + 1) 0 u2.cells
  bel : Below w.heap.size w wr
theorem Two20.drewN {w wr : World} {u1 u2 : Id20} (h : Two20 w u1 u2 wr) (n : Nat) : Two20 w u1 u2 (wr.drewN n) :=
  ⟨Below.range h.r1 (below_drewN (Below.refl _ _) n), Below.range h.r2 (below_drewN (Below.refl _ _) n), below_drewN h.bel n⟩

set_option maxHeartbeats 2000000 in
theorem cmp_any (u1 u2 : Id20) (w : World) : Calls Try.prog 18 #[.agg u1.cells.toArray, .agg u2.cells.toArray] w (AnyInt w) := by
  have st : Two20 w u1 u2 ((w.alloc (.cells u1.cells.toArray 31)).alloc (.cells u2.cells.toArray 31)) := by
    have h2 : Below (w.alloc (.cells u1.cells.toArray 31)).heap.size (w.alloc (.cells u1.cells.toArray 31)) ((w.alloc (.cells u1.cells.toArray 31)).alloc (.cells u2.cells.toArray 31)) := (Below.refl _ _).alloc (Nat.le_refl _) _
    exact ⟨Below.range (range_box w _ 31) h2, by simpa using range_box (w.alloc (.cells u1.cells.toArray 31)) u2.cells 31, ((Below.refl _ _).alloc (Nat.le_refl _) _).alloc (by simp) _⟩
  have ST : Hid _ := st
  clear st
  go_enter Try.func18, Try.ntmps18
  go_wp2_with fail
  go_loopw [5] (fun i wr => ∃ k : Nat, k ≤ 20 ∧ i = .int .i64 k ∧ Two20 w u1 u2 wr) (fun i _ => 20 - (intOf i).toNat)
  case atStart => exact ⟨0, by omega, rfl, ST.out⟩
  case round =>
    obtain ⟨k, hk, rfl, hT⟩ := hrel
    have HT : Hid _ := hT
    clear hT ST
    by_cases hlt : k < 20
    · have c0 := Id20.at HT.out.r1 k hlt
      have c1 := Id20.at HT.out.r2 k hlt
      rw [Nat.zero_add] at c0 c1
      have hk0 : (0 : Int) ≤ (k : Int) := by omega
      have hk2 : (k : Int) < 20 := by omega
      generalize (u1.l.getD k 0).toNat = x at *
      generalize (u2.l.getD k 0).toNat = y at *
      go_wp2_with fail
      go_quiet (fail)
      by_cases h1 : (x : Int) < (y : Int)
      · go_wp2
        go_ret
        exact ⟨⟨_, rfl⟩, below_drewN HT.out.bel _⟩
      · go_wp2
        go_quiet (fail)
        by_cases h2 : (y : Int) < (x : Int)
        · go_wp2
          go_ret
          exact ⟨⟨_, rfl⟩, below_drewN (below_drewN HT.out.bel _) _⟩
        · go_wp2
          go_roundw
          case rel => exact ⟨k + 1, by omega, by go_num, HT.out.drewN _⟩
          case measure => simp [intOf]; omega
    · go_wp2
      go_ret
      exact ⟨⟨_, rfl⟩, HT.out.bel⟩
end Go.Proofs.Qxb6608999a
