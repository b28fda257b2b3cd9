import Derived.Test.Qxb6615539aFmtMem
namespace Go.Proofs.Qxb6615539aFmt
open Go.RowKit
open Extern.Stop (cell)

/-! ### 10: zzCopyReplies -/
def CopiesPost (n : Nat) (R : Nat → Rep) (w : World) (e : Ending) (w' : World) : Prop :=
  ∃ a' b' c', e = .returned (.slice a' n c') ∧ RowIn w' a' b' 0 n R ∧ Below w.heap.size w w'

theorem copies_nil (R : Nat → Rep) (c : Nat) (w : World) : Calls Tryf.prog 10 #[.slice none 0 c] w (CopiesPost 0 R w) := by
  have hq := fun w => Lib.run_eql_slice_nil (P := Tryf.prog) w 22 49 none 0 c 0 0 Tryf.underlying22
  go_enter Tryf.func10, Tryf.ntmps10
  go_wp2
  go_ret
  exact ⟨_, 0, 0, rfl, ⟨fun h => by omega, fun j h => by omega⟩, Below.refl _ _⟩

/-- The rows that are done. -/
def DoneRows (wr : World) (g k : Nat) (R : Nat → Rep) : Prop := ∀ j, j < k → OwnAt wr g (j * 59) 59 (repCells (R j)) (R j).val

theorem done_rows {wr : World} {g k : Nat} {R : Nat → Rep} (h : DoneRows wr g k R) (n : Nat) (hn : k = n) : RowIn wr (some ⟨g, 0, none⟩) g 0 n R := by
  subst hn
  refine ⟨fun _ => rfl, fun j hj => ?_⟩
  obtain ⟨v, h1, _, h3, _⟩ := h j hj
  exact ⟨v, by rw [Nat.zero_add]; exact h1, h3⟩

set_option maxHeartbeats 1000000 in
theorem copies_some (A : Addr) (b off n c : Nat) (R : Nat → Rep) (w : World) (hs : Small n R) (h : RowIn w (some A) b off n R) :
    Calls Tryf.prog 10 #[.slice (some A) n c] w (CopiesPost n R w) := by
  have hn := hs.1
  have hq := fun w => Lib.run_eql_slice_nil (P := Tryf.prog) w 22 49 (some A) n c 0 0 Tryf.underlying22
  obtain ⟨z, hmk⟩ := make_wide 22 49 59 152 Tryf.underlying22 Tryf.infoz49 n (by omega) (by omega)
  have hzs : (madeCells z (n * 59)).size = n * 59 := size_madeCells _ _
  generalize madeCells z (n * 59) = zc at hmk hzs
  have H : Hid (RowIn w (some A) b off n R) := h
  have HS : Hid (Small n R) := hs
  clear h hs
  go_enter Tryf.func10, Tryf.ntmps10
  go_wp2
  go_loopw [4] (fun i wr => ∃ k : Nat, k ≤ n ∧ i = .int .i64 k ∧ DoneRows wr w.heap.size k R ∧ wr.there w.heap.size 0 (n * 59) ∧ w.heap.size < wr.heap.size ∧ Below w.heap.size w wr) (fun i _ => n - (intOf i).toNat)
  case atStart =>
    exact ⟨0, Nat.zero_le _, rfl, fun j hj => by omega, there_new w zc 49 0 (n * 59) (by omega), by simp, (Below.refl _ _).alloc (Nat.le_refl _) _⟩
  case round =>
    obtain ⟨k, hk, rfl, hrow, hth, hlt0, hbel⟩ := hrel
    have HD : Hid (DoneRows wr w.heap.size k R) := hrow
    have HT : Hid (wr.there w.heap.size 0 (n * 59)) := hth
    clear hrow hth
    by_cases hlt : k < n
    · obtain rfl := Option.some.inj (H.out.at_ (by omega))
      obtain ⟨v, hr0, hv0⟩ := H.out.rep k hlt
      have hr := Below.range hr0 hbel
      have hb : b < w.heap.size := World.block_lt_of_cell? w _ (fieldsAt hr0).f0
      have hi : (Tryf.prog.info? 49).map (·.size) = some (repCells (R k) v).length := by rw [repCells_len]; exact info49
      have hi' : (Tryf.prog.info? 49).map (·.size) = some (repCells (R k) v).toArray.size := by rw [List.size_toArray]; exact hi
      have hth2 : wr.there w.heap.size (k * 59) (repCells (R k) v).toArray.size := by
        rw [show (repCells (R k) v).toArray.size = 59 from repCells_len _ _]; exact there_part HT.out (Nat.zero_le _) (by omega)
      have h1c := all_oneCell_toArray (repCells_one (R k) v (valIn_one hv0))
      obtain ⟨W1, hW1⟩ : ∃ W1, W1 = wr.setCells w.heap.size (k * 59) (repCells (R k) v) := ⟨_, rfl⟩
      have hr1 : W1.rangeAt b (off + k * 59) (repCells (R k) v) := by rw [hW1]; exact World.rangeAt_setCells_apart hr _ _ _ (Or.inl (by omega))
      have hb1 : Below w.heap.size w W1 := by rw [hW1]; exact Below.setCells (Nat.le_refl _) _ _ _ hbel
      have hv1 := Below.val hv0 hb1
      have hg1 : w.heap.size < W1.heap.size := by rw [hW1, setCells_size]; exact hlt0
      have hth1 : Hid (W1.there w.heap.size 0 (n * 59)) := by rw [hW1]; exact World.there_setCells HT.out _ _ _
      have hown1 : Hid (DoneRows W1 w.heap.size k R) := fun j hj => by rw [hW1]; exact (HD.out j hj).setCells _ _ (Or.inl (by omega))
      have hmine : Hid (W1.rangeAt w.heap.size (k * 59) (repCells (R k) v)) := by rw [hW1]; exact World.rangeAt_setCells_same _ _ _ _ hth2
      have hc20 := (fieldsAt hr1).f20
      have HW1 : Hid (W1 = wr.setCells w.heap.size (k * 59) (repCells (R k) v)) := hW1
      have HV1 : Hid (ValIn W1 v (R k).val) := hv1
      clear hv0 hv1 hW1 hr1 hr0
      go_wp2_with (first | refine wpList_load_mid rfl 49 _ rfl _ _ rfl (repCells (R k) v) _ hr Tryf.underlying49 rfl hi ?_ | (refine wpList_store_mid rfl 49 _ _ rfl _ _ _ rfl rfl hth2 hi' h1c ?_; rw [List.toList_toArray, ← HW1.out]))
      go_at_call 21
      refine (copy_any v (R k).val W1 HV1.out (HS.out.2 k hlt)).mono ?_
      rintro e w2 ⟨v', rfl, hv', hb2, hq2⟩
      clear hc20 hr hth2 hi hi' h1c
      have hth3 := there_below hth1.out hb2
      obtain ⟨x20, hx20⟩ := Option.isSome_iff_exists.1 (hth3 (k * 59 + 20) (by omega)).1
      have hf20 := (hth3 (k * 59 + 20) (by omega)).2
      rw [Nat.zero_add] at hx20 hf20
      have HT3 : Hid ((w2.setCell ⟨w.heap.size, k * 59 + 20, none⟩ v').there w.heap.size 0 (n * 59)) := there_setCell hth3 _ _
      have hown3 : Hid (DoneRows (w2.setCell ⟨w.heap.size, k * 59 + 20, none⟩ v') w.heap.size (k + 1) R) := fun j hj => by
        by_cases e : j = k
        · subst e
          refine ⟨v', rep_setval (Below.range hmine.out hb2), repCells_len _ _, val_setCell hv' _ _ (fun q c n e _ => ?_), fun q n c e => ?_⟩
          · have := hq2 q n c e; show q.block ≠ w.heap.size; omega
          · have := hq2 q n c e; omega
        · exact ((hown1.out j (by omega)).below hb2).setCell _ _ (Or.inl (by omega))
      have hb3 : Below w.heap.size w (w2.setCell ⟨w.heap.size, k * 59 + 20, none⟩ v') := (hb1.trans (hb2.mono (Nat.le_of_lt hg1))).setCell (Nat.le_refl _) _
      have hg3 : w.heap.size < (w2.setCell ⟨w.heap.size, k * 59 + 20, none⟩ v').heap.size := by
        have := hb2.size
        simp [World.setCell]; omega
      obtain ⟨a4, n4, c4, rfl, hn4⟩ := valIn_slice hv'
      clear hn4
      clear hth3 hv' hq2
      go_wp2_with fail
      go_roundw
      case rel => exact ⟨k + 1, by omega, by go_num, hown3.out, HT3.out, hg3, hb3⟩
      case measure => simp [intOf]; omega
    · go_wp2
      go_ret
      exact ⟨_, w.heap.size, n, rfl, done_rows HD.out n (by omega), hbel⟩

theorem copies_any (a : Option Addr) (b off n c : Nat) (R : Nat → Rep) (w : World) (hs : Small n R) (h : RowIn w a b off n R) :
    Calls Tryf.prog 10 #[.slice a n c] w (CopiesPost n R w) := by
  cases a with
  | none =>
    have : n = 0 := by
      cases n with
      | zero => rfl
      | succ m => exact absurd (h.at_ (by omega)) (by intro e; cases e)
    subst this
    exact copies_nil R c w
  | some A => exact copies_some A b off n c R w hs h
end Go.Proofs.Qxb6615539aFmt
