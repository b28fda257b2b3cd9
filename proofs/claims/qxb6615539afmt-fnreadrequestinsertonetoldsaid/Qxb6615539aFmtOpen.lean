import Derived.Test.Qxb6615539aFmtLaw3
import Derived.Deep.Slices
import Derived.ChangeArms
import Derived.ChangeSlices
import Derived.ProofKit
import Derived.ShutString
import Derived.Carry
import Derived.Stop.JoinedTold
import Derived.SevenToldRow
namespace Go.Proofs.Qxb6615539aFmt
open Go.ChangeShapes Go.WideShapes Go.ChangeAt Go.RowKit
open Extern.Stop (cell)
open Go.ChangeMaps (open_string shut_string)

section
variable {H : Type} {enc : TypeId × Value → H} {w : World} {sp : Nat → Bool} {held : Bool}

theorem byte_cell {z : Int} (h : (Lit.int .u8 z).wf = true) : (.int .u8 z : Value) = cell (UInt8.ofNat z.toNat) := by
  have e1 : IntKind.u8.min = 0 := rfl
  have e2 : IntKind.u8.max = 255 := rfl
  simp [Lit.wf] at h
  have h3 : z.toNat < 256 := by omega
  simp only [cell]
  congr 1
  simp [UInt8.toNat_ofNat', Nat.mod_eq_of_lt h3]
  omega

/-- An array of sixteen bytes. -/
theorem open_id16 {fuel : Nat} {cs : List Value} {x : DataW H × List MemPlace} (h : DataW.trod enc Tryf.prog w 0 sp held fuel 36 cs = some x) : ∃ u : Id16, cs = u.cells := by
  have c5 : Tryf.prog.cellsOf 5 = 1 := by kernel_rfl
  have c36 : Tryf.prog.cellsOf 36 = 16 := by kernel_rfl
  cases fuel with
  | zero => simp [DataW.trod] at h
  | succ n =>
    unfold DataW.trod at h
    rw [Tryf.underlying36] at h
    simp only [c5, c36, Nat.mul_one] at h
    split at h
    · rename_i hl
      obtain ⟨xs, hm, _⟩ := Option.map_eq_some_iff.1 h
      have hlen := mapM_some_length hm
      simp at hlen
      have each : ∀ i, i < 16 → ∃ b : UInt8, cs[i]? = some (cell b) := fun i hi => by
        have := mapM_some_get hm i i (by simp [hi])
        rw [List.getElem?_eq_getElem (by omega)] at this
        obtain ⟨z, hz, _, hw⟩ := DataW.trod_int Tryf.underlying5 this
        have h1 : cs[i]? = some (.int .u8 z) := by
          have h2 : ((cs.drop i).take 1)[0]? = some (.int .u8 z) := by rw [hz]; rfl
          simpa [List.getElem?_take, List.getElem?_drop] using h2
        exact ⟨_, by rw [h1, byte_cell hw]⟩
      obtain ⟨f, hf⟩ := Deep.choose_lt each
      refine ⟨⟨(List.range 16).map f, by simp⟩, List.ext_getElem? fun i => ?_⟩
      by_cases hi : i < 16
      · rw [hf i hi]; simp [Id16.cells, hi]
      · rw [List.getElem?_eq_none (by omega), List.getElem?_eq_none (by simp [Id16.cells_len]; omega)]
    · cases h

/-- A slice of bytes that came in. -/
theorem open_val {fuel : Nat} {cs : List Value} {x : DataW H × List MemPlace} (h : DataW.trod enc Tryf.prog w 0 sp held fuel 40 cs = some x) :
    ∃ (v : Value) (bs : Option (List UInt8)), cs = [v] ∧ ValIn w v bs ∧ (∀ l, bs = some l → l.length ≤ 9223372036854775807) := by
  have hmax : maxLen = 9223372036854775807 := rfl
  rcases open_ints Tryf.underlying40 Tryf.underlying5 (by kernel_rfl) h with ⟨rfl, _⟩ | ⟨a, len, cap, zs, rfl, _, hl, hm, hz, _, hc, hw⟩
  · exact ⟨_, none, rfl, rfl, fun l h => by cases h⟩
  · have hlz : len ≤ zs.length := by rw [hz]; split <;> omega
    obtain ⟨b, o, s⟩ := a
    have hbl : ((zs.take len).map fun z => UInt8.ofNat z.toNat).length = len := by simp [Nat.min_eq_left hlz]
    refine ⟨_, some ((zs.take len).map fun z => UInt8.ofNat z.toNat), rfl, ⟨⟨b, o, s⟩, cap, b, o, by rw [hbl], fun h0 => ?_, fun j v hj => ?_⟩, fun l e => ?_⟩
    · rw [hbl] at h0
      have hs : s = none := by simpa [Addr.add] using World.cell?_spot (hc 0 (by omega))
      rw [hs]
    · obtain ⟨hjl, hv⟩ := List.getElem?_eq_some_iff.1 hj
      rw [List.length_map, hbl] at hjl
      have hjz : j < zs.length := by omega
      have hcj := hc j hjz
      have hs : s = none := by simpa [Addr.add] using World.cell?_spot (hc 0 (by omega))
      subst hs
      have hmem : (Lit.int .u8 (zs.getD j 0)).wf = true := hw _ (by simp [List.getD, hjz])
      have e : w.cell? ⟨b, o + j, none⟩ = some (.int .u8 (zs.getD j 0)) := by
        by_cases hj0 : j = 0
        · subst hj0; simpa [Addr.add] using hcj
        · simpa [Addr.add, hj0] using hcj
      rw [e, byte_cell hmem, ← hv]
      simp [List.getD, hjz]
    · cases e
      rw [hbl]; omega

theorem split_at (cs : List Value) (o s : Nat) : cs.drop o = (cs.drop o).take s ++ cs.drop (o + s) := by
  rw [← List.drop_drop]; exact (List.take_append_drop s (cs.drop o)).symm

/-- A reply that came in. -/
theorem open_rep {fuel : Nat} {cs : List Value} {x : DataW H × List MemPlace} (h : DataW.trod enc Tryf.prog w 0 sp held fuel 49 cs = some x) :
    ∃ (r : Rep) (v : Value), cs = repCells r v ∧ ValIn w v r.val ∧ RepOk r := by
  have k34 : Tryf.prog.cellsOf 34 = 1 := by kernel_rfl
  have k5 : Tryf.prog.cellsOf 5 = 1 := by kernel_rfl
  have k9 : Tryf.prog.cellsOf 9 = 1 := by kernel_rfl
  have k36 : Tryf.prog.cellsOf 36 = 16 := by kernel_rfl
  have k40 : Tryf.prog.cellsOf 40 = 1 := by kernel_rfl
  have k4 : Tryf.prog.cellsOf 4 = 1 := by kernel_rfl
  have k49 : Tryf.prog.cellsOf 49 = 59 := by kernel_rfl
  obtain ⟨xs, n, _, _, hlen, hxs, hf⟩ := DataW.trod_struct Tryf.underlying49 h
  rw [k49] at hlen
  have hxs' : xs.length = 14 := hxs
  have get : ∀ (i : Nat) (f : Field), i < 14 → _ → ∀ t o s, f.type = t → f.offset = o → Tryf.prog.cellsOf t = s → ∃ y, DataW.trod enc Tryf.prog w 0 sp held n t ((cs.drop o).take s) = some y := fun i f hi hg t o s e1 e2 e3 => by
    have := hf i f hg
    rw [List.getElem?_eq_getElem (by omega), e1, e2, e3] at this
    exact ⟨_, this⟩
  clear hf h
  obtain ⟨_, g0⟩ := get 0 _ (by omega) rfl 34 0 1 rfl rfl k34
  obtain ⟨_, g1⟩ := get 1 _ (by omega) rfl 5 1 1 rfl rfl k5
  obtain ⟨_, g2⟩ := get 2 _ (by omega) rfl 9 2 1 rfl rfl k9
  obtain ⟨_, g3⟩ := get 3 _ (by omega) rfl 34 3 1 rfl rfl k34
  obtain ⟨_, g4⟩ := get 4 _ (by omega) rfl 36 4 16 rfl rfl k36
  obtain ⟨_, g5⟩ := get 5 _ (by omega) rfl 40 20 1 rfl rfl k40
  obtain ⟨_, g6⟩ := get 6 _ (by omega) rfl 34 21 1 rfl rfl k34
  obtain ⟨_, g7⟩ := get 7 _ (by omega) rfl 36 22 16 rfl rfl k36
  obtain ⟨_, g8⟩ := get 8 _ (by omega) rfl 34 38 1 rfl rfl k34
  obtain ⟨_, g9⟩ := get 9 _ (by omega) rfl 36 39 16 rfl rfl k36
  obtain ⟨_, g10⟩ := get 10 _ (by omega) rfl 4 55 1 rfl rfl k4
  obtain ⟨_, g11⟩ := get 11 _ (by omega) rfl 4 56 1 rfl rfl k4
  obtain ⟨_, g12⟩ := get 12 _ (by omega) rfl 34 57 1 rfl rfl k34
  obtain ⟨_, g13⟩ := get 13 _ (by omega) rfl 34 58 1 rfl rfl k34
  clear get
  obtain ⟨id, e0, _, _⟩ := DataW.trod_int Tryf.underlying34 g0
  obtain ⟨op, e1, _, _⟩ := DataW.trod_int Tryf.underlying5 g1
  obtain ⟨key, e2, _, hk⟩ := DataW.trod_string Tryf.underlying9 g2
  obtain ⟨tn, e3, _, _⟩ := DataW.trod_int Tryf.underlying34 g3
  obtain ⟨tw, e4⟩ := open_id16 g4
  obtain ⟨v, bs, e5, hv, hb⟩ := open_val g5
  obtain ⟨cn, e6, _, _⟩ := DataW.trod_int Tryf.underlying34 g6
  obtain ⟨cw, e7⟩ := open_id16 g7
  obtain ⟨rn, e8, _, _⟩ := DataW.trod_int Tryf.underlying34 g8
  obtain ⟨rw', e9⟩ := open_id16 g9
  obtain ⟨fe, e10, _⟩ := DataW.trod_bool Tryf.underlying4 g10
  obtain ⟨de, e11, _⟩ := DataW.trod_bool Tryf.underlying4 g11
  obtain ⟨se, e12, _, _⟩ := DataW.trod_int Tryf.underlying34 g12
  obtain ⟨re, e13, _, _⟩ := DataW.trod_int Tryf.underlying34 g13
  clear g0 g1 g2 g3 g4 g5 g6 g7 g8 g9 g10 g11 g12 g13
  refine ⟨⟨id, op, key, tn, tw, bs, cn, cw, rn, rw', fe, de, se, re⟩, v, ?_, hv, hk, hb⟩
  have d0 := split_at cs 0 1
  have d1 := split_at cs 1 1
  have d2 := split_at cs 2 1
  have d3 := split_at cs 3 1
  have d4 := split_at cs 4 16
  have d5 := split_at cs 20 1
  have d6 := split_at cs 21 1
  have d7 := split_at cs 22 16
  have d8 := split_at cs 38 1
  have d9 := split_at cs 39 16
  have d10 := split_at cs 55 1
  have d11 := split_at cs 56 1
  have d12 := split_at cs 57 1
  have d13 := split_at cs 58 1
  have d14 : cs.drop 59 = [] := List.drop_of_length_le (by omega)
  rw [e0] at d0; rw [e1] at d1; rw [e2] at d2; rw [e3] at d3; rw [e4] at d4; rw [e5] at d5; rw [e6] at d6; rw [e7] at d7; rw [e8] at d8; rw [e9] at d9; rw [e10] at d10; rw [e11] at d11; rw [e12] at d12; rw [e13] at d13
  simp only [Nat.reduceAdd, Nat.zero_add] at d0 d1 d2 d3 d4 d5 d6 d7 d8 d9 d10 d11 d12 d13
  rw [List.drop_zero] at d0
  rw [d0, d1, d2, d3, d4, d5, d6, d7, d8, d9, d10, d11, d12, d13, d14]
  simp [repCells]

/-- A slice of replies that came in. -/
theorem open_row {a : Option Addr} {n c : Nat} {d : DataW H} {p : List MemPlace} (h : DataW.Trod enc Tryf.prog w 0 sp held 22 (.slice a n c) d p) :
    n ≤ 9223372036854775807 ∧ ∃ b off R, RowIn w a b off n R ∧ ∀ j, j < n → RepOk (R j) := by
  have hmax : maxLen = 9223372036854775807 := rfl
  have k49 : Tryf.prog.cellsOf 49 = 59 := by kernel_rfl
  obtain ⟨fuel, hf⟩ := h
  rcases Deep.open_slice Tryf.underlying22 hf with ⟨hcs, _⟩ | ⟨x, len, cap, m, k, D, Pl, hcs, _, hl, hm, hmm, _, hx⟩
  · simp [Value.cells] at hcs
    obtain ⟨rfl, rfl, rfl⟩ := hcs
    exact ⟨by omega, 0, 0, fun _ => zeroRep, ⟨fun h => by omega, fun j h => by omega⟩, fun j h => by omega⟩
  · simp [Value.cells] at hcs
    obtain ⟨rfl, rfl, rfl⟩ := hcs
    have hnm : n ≤ m := by rw [hmm]; split <;> omega
    obtain ⟨b, off, s⟩ := x
    rw [k49] at hx
    have each : ∀ i, i < n → ∃ r : Rep, (s = none ∧ RepAt w b (off + i * 59) r) ∧ RepOk r := fun i hi => by
      obtain ⟨cs, h1, h2⟩ := hx i (by omega)
      obtain ⟨_, hcl, hc⟩ := World.cells?_some h1
      obtain ⟨r, v, rfl, hv, hok⟩ := open_rep h2
      have hs : s = none := by
        obtain ⟨cs0, g1, g2⟩ := hx 0 (by omega)
        obtain ⟨_, gl, gc⟩ := World.cells?_some g1
        have := gc 0 (by omega)
        rw [List.getElem?_eq_getElem (by omega)] at this
        simpa [Addr.add] using World.cell?_spot this
      subst hs
      refine ⟨r, ⟨rfl, v, fun j u hj => ?_, hv⟩, hok⟩
      have hj59 : j < 59 := by have := (List.getElem?_eq_some_iff.1 hj).1; omega
      have := hc j hj59
      rw [hj] at this
      rw [← this]
      rw [Deep.add_add]
      by_cases hz : i * 59 + j = 0
      · have h1 : off + i * 59 + j = off := by omega
        simp [Addr.add, hz, h1]
      · rw [Addr.add, if_neg hz, ← Nat.add_assoc]
    have each' : ∀ i, i < n → ∃ r : Rep, (s = none ∧ RepAt w b (off + i * 59) r) ∧ RepOk r := each
    obtain ⟨R, hR⟩ : ∃ R : Nat → Rep, ∀ i, i < n → (s = none ∧ RepAt w b (off + i * 59) (R i)) ∧ RepOk (R i) := by
      refine ⟨fun i => if hi : i < n then Classical.choose (each' i hi) else zeroRep, fun i hi => ?_⟩
      simp only [dif_pos hi]
      exact Classical.choose_spec (each' i hi)
    refine ⟨by omega, b, off, R, ⟨fun h0 => ?_, fun j hj => (hR j hj).1.2⟩, fun j hj => (hR j hj).2⟩
    rw [(hR 0 h0).1.1]
end
end Go.Proofs.Qxb6615539aFmt
