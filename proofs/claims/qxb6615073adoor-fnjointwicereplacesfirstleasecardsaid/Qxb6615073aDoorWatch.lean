import Derived.Test.Qxb6615073aDoorInv2
namespace Go.Proofs.Qxb6615073aDoor
open Go.RowKit

theorem below_undrew {w w' : World} (h : Below w.drew.heap.size w.drew w') : Below w.heap.size w w' := ⟨h.os, h.tape, h.output, h.size, h.block⟩
theorem below_undrewN {w w' : World} {n : Nat} (h : Below (w.drewN n).heap.size (w.drewN n) w') : Below w.heap.size w w' := ⟨h.os, h.tape, h.output, h.size, h.block⟩

/-- A member's record. -/
def MemRec (m : Nat) (nm : ByteArray) (ep la fl : Int) (lf : Bool) (ch : Int) (cand : Value) (ut jd : Bool) (en : Int) (w : World) : Prop :=
  w.heap[m]? = some (.cells #[.string nm, .int .i64 ep, .int .i64 la, .int .i64 fl, .bool lf, .int .u64 ch, cand, .slice none 0 0, .bool ut, .bool jd, .int .i64 en] 77 (0, 0))

theorem cell_same {w w' : World} {b i : Nat} {v : Value} (e : w'.heap[b]? = w.heap[b]?) (h : w.cell? ⟨b, i, none⟩ = some v) : w'.cell? ⟨b, i, none⟩ = some v := by
  rw [← h]; exact World.cell?_of_block e

theorem watchS {T c m : Nat} {l d ep la fl : Int} {nm : ByteArray} {lf : Bool} {w w' : World} (t0 : w'.cell? ⟨T, 0, none⟩ = some (.pointer (some ⟨c, 0, none⟩)))
    (hc : w'.heap[c]? = w.heap[c]?) (hm : w'.heap[m]? = w.heap[m]?) (c0 : w.cell? ⟨c, 0, none⟩ = some (.int .i64 l)) (c1 : w.cell? ⟨c, 1, none⟩ = some (.int .i64 d))
    (m0 : w.cell? ⟨m, 0, none⟩ = some (.string nm)) (m1 : w.cell? ⟨m, 1, none⟩ = some (.int .i64 ep)) (m2 : w.cell? ⟨m, 2, none⟩ = some (.int .i64 la)) (m3 : w.cell? ⟨m, 3, none⟩ = some (.int .i64 fl)) (m4 : w.cell? ⟨m, 4, none⟩ = some (.bool lf)) :
    w'.cell? ⟨T, 0, none⟩ = some (.pointer (some ⟨c, 0, none⟩)) ∧ w'.cell? ⟨c, 0, none⟩ = some (.int .i64 l) ∧ w'.cell? ⟨c, 1, none⟩ = some (.int .i64 d) ∧ w'.cell? ⟨m, 0, none⟩ = some (.string nm) ∧ w'.cell? ⟨m, 1, none⟩ = some (.int .i64 ep) ∧ w'.cell? ⟨m, 2, none⟩ = some (.int .i64 la) ∧ w'.cell? ⟨m, 3, none⟩ = some (.int .i64 fl) ∧ w'.cell? ⟨m, 4, none⟩ = some (.bool lf) :=
  ⟨t0, cell_same hc c0, cell_same hc c1, cell_same hm m0, cell_same hm m1, cell_same hm m2, cell_same hm m3, cell_same hm m4⟩

set_option maxRecDepth 100000 in
set_option maxHeartbeats 1000000 in
theorem watch_any (K : Cx) (T m : Nat) (now ge L ep la fl : Int) (lf : Bool) (nm : ByteArray) (ch : Int) (cand : Value) (ut jd : Bool) (en : Int) (N : Nat) (w : World)
    (hT : TxnAt K T now ge N w) (hR : RecAt K L w) (hm : MemRec m nm ep la fl lf ch cand ut jd en w) (hB : K.B ≤ w.heap.size) (hN : N < 1000000000) :
    Calls Tryd.prog 25 #[ptr T, ptr m] w (EmitPost K T now ge N w) := by
  have t0 : w.cell? ⟨T, 0, none⟩ = some (.pointer (some ⟨K.c, 0, none⟩)) := hT.c0
  have c0 := hR.c0
  have c1 := hR.c1
  have m0 : w.cell? ⟨m, 0, none⟩ = some (.string nm) := by rw [cell_of hm]; rfl
  have m1 : w.cell? ⟨m, 1, none⟩ = some (.int .i64 ep) := by rw [cell_of hm]; rfl
  have m2 : w.cell? ⟨m, 2, none⟩ = some (.int .i64 la) := by rw [cell_of hm]; rfl
  have m3 : w.cell? ⟨m, 3, none⟩ = some (.int .i64 fl) := by rw [cell_of hm]; rfl
  have m4 : w.cell? ⟨m, 4, none⟩ = some (.bool lf) := by rw [cell_of hm]; rfl
  have hTlt := lt_of_cell t0
  have hclt := lt_of_cell c0
  have hmlt : m < w.heap.size := lt_of_cell m0
  have hTm : Hid (m ≠ T ∧ K.c ≠ T) := by
    obtain ⟨v, n, xs, gm, gl, gr, gh, gk, ca, x11, x12, x13, x14, hb, _⟩ := hT
    exact ⟨ne_of_types hm hb (by decide), ne_of_types hR hb (by decide)⟩
  have HT : Hid (TxnAt K T now ge N w) := hT
  have HR : Hid (RecAt K L w) := hR
  have HM : Hid (MemRec m nm ep la fl lf ch cand ut jd en w) := hm
  clear hT hR hm
  unfold ptr at *
  go_enter Tryd.func25, Tryd.ntmps25
  go_wp2_with fail
  go_region_held3 (fun w' => w'.cell? ⟨T, 0, none⟩ = some (.pointer (some ⟨K.c, 0, none⟩)) ∧ w'.cell? ⟨K.c, 0, none⟩ = some (.int .i64 K.l) ∧ w'.cell? ⟨K.c, 1, none⟩ = some (.int .i64 K.d) ∧ w'.cell? ⟨m, 0, none⟩ = some (.string nm) ∧ w'.cell? ⟨m, 1, none⟩ = some (.int .i64 ep) ∧ w'.cell? ⟨m, 2, none⟩ = some (.int .i64 la) ∧ w'.cell? ⟨m, 3, none⟩ = some (.int .i64 fl) ∧ w'.cell? ⟨m, 4, none⟩ = some (.bool lf))
    (first | exact watchS t0 rfl rfl c0 c1 m0 m1 m2 m3 m4 | exact watchS (cell_same (hb.block T hTlt) t0) (hb.block K.c hclt) (hb.block m hmlt) c0 c1 m0 m1 m2 m3 m4 | exact watchS (w := w) hq1.c0 ((hq2.keeps ((hb.block K.c hclt).trans HR.out) hTm.out.2 (by decide)).trans HR.out.symm) ((hq2.keeps ((hb.block m hmlt).trans HM.out) hTm.out.1 (by decide)).trans HM.out.symm) c0 c1 m0 m1 m2 m3 m4)
    (first | (go_at_call 32; refine (fenced_any _ _ _ _ _ _ _).mono ?_; rintro e w' ⟨rfl, hb⟩) | (go_at_call 26; refine (emit_any K T now ge N _ _ _ (HT.out.below (below_undrew hb)) (Nat.le_trans hB hb.size) hN).mono ?_; rintro e w' ⟨rfl, hq1, hq2⟩))
  go_end0
  exact ⟨rfl, hq1, (Fr.of_below (below_undrew hb)).trans hq2 (fun _ q => q) (fun _ _ q => q)⟩
end Go.Proofs.Qxb6615073aDoor
