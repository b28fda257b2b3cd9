import Derived.Test.Qxb6608984aBase
import Derived.Deep.MidRow
import Derived.Laws.MakeOwn
import Derived.Deep.OwnRows
import Derived.Deep.WholeRow
namespace Go.Proofs.Qxb6608984a
open Go.RowKit
set_option linter.unusedSimpArgs false

theorem there_new (w : World) (c : Array Value) (t : TypeId) (o n : Nat) (h : o + n ≤ c.size) : (w.alloc (.cells c t)).there w.heap.size o n := fun j hj => by
  refine ⟨?_, ?_⟩
  · rw [cell_of_row _ _ (o + j) _ t (0, 0) (heap_alloc_last w _)]
    simp; omega
  · exact (World.rowIs_alloc w c t (fun i => c[i]!) (fun i hi => by simp [hi])).frozen (o + j)
theorem there_setCell {w : World} {b o n : Nat} (h : w.there b o n) (a : Addr) (v : Value) : (w.setCell a v).there b o n := fun j hj => by
  obtain ⟨h1, h2⟩ := h j hj
  obtain ⟨u, hu⟩ := Option.isSome_iff_exists.1 h1
  refine ⟨?_, by rw [World.frozen?_setCell]; exact h2⟩
  by_cases e : a = ⟨b, o + j, none⟩
  · subst e; rw [World.cell?_setCell_same _ _ _ hu]; rfl
  · rw [World.cell?_setCell_other _ _ _ _ e, hu]; rfl

theorem info37 : (Try.prog.info? 37).map (fun i => (i.zero.isSome, i.size, i.bytes)) = some (true, 2, 32) := by kernel_rfl

theorem make_labels (n : Nat) (hn : n ≤ 1048576) : ∃ z : Array Value, z.size = n * 2 ∧ ∀ w, (Instr.makeSlice 26 (.int .i64 (n : Int)) (.int .i64 (n : Int))).run Try.prog w = .ok (.slice (some ⟨w.heap.size, 0, none⟩) n n) (w.alloc (.cells z 37)) := by
  obtain ⟨i, hi, hzz⟩ := Option.map_eq_some_iff.1 info37
  simp only [Prod.mk.injEq] at hzz
  obtain ⟨hz, hs, hb⟩ := hzz
  obtain ⟨z, hz⟩ := Option.isSome_iff_exists.1 hz
  refine ⟨madeCells z.cells (n * 2), size_madeCells _ _, fun w => ?_⟩
  have hr := run_make (P := Try.prog) w 26 37 i z Try.underlying26 hi hz .i64 .i64 n n (by omega) (by omega) (by rw [hb]; omega) (by omega)
  rw [hs] at hr
  simpa using hr

/-! ### 9: zzLabels -/
def LabPost (N V : Nat → ByteArray) (n : Nat) (w : World) (e : Ending) (w' : World) : Prop :=
  ∃ b', e = .returned (.slice (some ⟨b', 0, none⟩) n n) ∧ PairsIn w' (some ⟨b', 0, none⟩) b' 0 n N V ∧ Below w.heap.size w w'

/-- The labels that are done. -/
structure DoneL (w wr : World) (n k : Nat) (N V : Nat → ByteArray) : Prop where
  pairs : PairsIn wr (some ⟨w.heap.size, 0, none⟩) w.heap.size 0 k N V
  th : wr.there w.heap.size 0 (n * 2)
  bel : Below w.heap.size w wr

theorem doneL_step {w wr : World} {n k : Nat} {N V : Nat → ByteArray} (h : DoneL w wr n k N V) (hk : k < n) {u0 u1 : Value} (d0 : wr.cell? ⟨w.heap.size, k * 2, none⟩ = some u0) (d1 : wr.cell? ⟨w.heap.size, k * 2 + 1, none⟩ = some u1) :
    DoneL w ((wr.setCell ⟨w.heap.size, k * 2, none⟩ (.string (N k))).setCell ⟨w.heap.size, k * 2 + 1, none⟩ (.string (V k))).drew n (k + 1) N V := by
  have e0 : (wr.setCell ⟨w.heap.size, k * 2, none⟩ (.string (N k))).cell? ⟨w.heap.size, k * 2, none⟩ = some (.string (N k)) := World.cell?_setCell_same _ _ _ d0
  have e1 : (wr.setCell ⟨w.heap.size, k * 2, none⟩ (.string (N k))).cell? ⟨w.heap.size, k * 2 + 1, none⟩ = some u1 := by rw [World.cell?_setCell_other _ _ _ _ (fun e => by simp at e)]; exact d1
  refine ⟨⟨fun _ => rfl, fun j hj => ?_, fun j hj => ?_⟩, ?_, ?_⟩
  · rw [Nat.zero_add, World.cell?_drew, World.cell?_setCell_other _ _ _ _ (fun e => by simp at e <;> omega)]
    by_cases e : j = k
    · subst e; exact e0
    · rw [World.cell?_setCell_other _ _ _ _ (fun q => by simp at q <;> omega)]
      have := h.pairs.name j (by omega)
      rwa [Nat.zero_add] at this
  · rw [Nat.zero_add, World.cell?_drew]
    by_cases e : j = k
    · subst e; exact World.cell?_setCell_same _ _ _ e1
    · rw [World.cell?_setCell_other _ _ _ _ (fun q => by simp at q <;> omega), World.cell?_setCell_other _ _ _ _ (fun q => by simp at q <;> omega)]
      have := h.pairs.val j (by omega)
      rwa [Nat.zero_add] at this
  · exact (World.there_drew _ _ _ _).2 (there_setCell (there_setCell h.th _ _) _ _)
  · exact ((h.bel.setCell (p := ⟨w.heap.size, k * 2, none⟩) (Nat.le_refl _) _).setCell (p := ⟨w.heap.size, k * 2 + 1, none⟩) (Nat.le_refl _) _).drew

set_option maxHeartbeats 2000000 in
theorem labels_any (a : Option Addr) (b off n c : Nat) (N V : Nat → ByteArray) (w : World) (hn : n ≤ 65536) (h : PairsIn w a b off n N V) :
    Calls Try.prog 9 #[.slice a n c] w (LabPost N V n w) := by
  obtain ⟨z, hzs, hmk⟩ := make_labels n (by omega)
  have H : Hid _ := h
  clear h
  go_enter Try.func9, Try.ntmps9
  go_wp2
  go_loopw [4] (fun i wr => ∃ (k : Nat), k ≤ n ∧ i = .int .i64 k ∧ DoneL w wr n k N V) (fun i _ => n - (intOf i).toNat)
  case atStart => exact ⟨0, Nat.zero_le _, rfl, ⟨fun _ => rfl, fun j hj => by omega, fun j hj => by omega⟩, there_new w z 37 0 (n * 2) (by omega), (Below.refl _ _).alloc (Nat.le_refl _) _⟩
  case round =>
    obtain ⟨k, hk, rfl, hD⟩ := hrel
    have HD : Hid _ := hD
    clear hD
    by_cases hlt : k < n
    · obtain rfl := H.out.at_ (by omega)
      have P := Below.pairs H.out HD.out.bel
      have c0 := P.name k hlt
      have c1 := P.val k hlt
      obtain ⟨u0, d0⟩ := Option.isSome_iff_exists.1 (HD.out.th (k * 2) (by omega)).1
      obtain ⟨u1, d1⟩ := Option.isSome_iff_exists.1 (HD.out.th (k * 2 + 1) (by omega)).1
      have e0 := (HD.out.th (k * 2) (by omega)).2
      have e1 := (HD.out.th (k * 2 + 1) (by omega)).2
      rw [Nat.zero_add] at d0 d1 e0 e1
      have hk0 : (0 : Int) ≤ (k : Int) := by omega
      have hk2 : (k : Int) < (n : Int) := by omega
      clear P
      go_wp2
      go_region
      go_wp2
      go_roundw
      case rel => exact ⟨k + 1, by omega, by go_num, doneL_step HD.out hlt d0 d1⟩
      case measure => simp [intOf]; omega
    · go_wp2
      go_ret
      obtain rfl : k = n := by omega
      exact ⟨_, rfl, HD.out.pairs, HD.out.bel⟩
end Go.Proofs.Qxb6608984a
