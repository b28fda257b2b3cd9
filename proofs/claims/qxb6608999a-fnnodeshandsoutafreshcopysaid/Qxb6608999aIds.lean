import Derived.Test.Qxb6608999aPrem
import Derived.Laws.AppendOwn
namespace Go.Proofs.Qxb6608999a
open Go.RowKit
open Extern.Stop (cell)
set_option linter.unusedSimpArgs false

theorem infoz32 : (Try.prog.info? 32).map (fun i => (i.zero.isSome, i.size, i.bytes)) = some (true, 20, 20) := by kernel_rfl
theorem infoz32b : (Try.prog.info? 32).map (fun i => (i.zero.map (·.cells.size), i.size, i.bytes)) = some (some 20, 20, 20) := by kernel_rfl
theorem make_ids (n : Nat) (hn : n ≤ 1048576) : ∃ z : Array Value, z.size = n * 20 ∧ ∀ w, (Instr.makeSlice 27 (.int .i64 (n : Int)) (.int .i64 (n : Int))).run Try.prog w = .ok (.slice (some ⟨w.heap.size, 0, none⟩) n n) (w.alloc (.cells z 32)) := by
  obtain ⟨i, hi, hzz⟩ := Option.map_eq_some_iff.1 infoz32
  simp only [Prod.mk.injEq] at hzz
  obtain ⟨hz, hs, hb⟩ := hzz
  obtain ⟨z, hz⟩ := Option.isSome_iff_exists.1 hz
  refine ⟨madeCells z.cells (n * 20), size_madeCells _ _, fun w => ?_⟩
  have hr := run_make (P := Try.prog) w 27 32 i z Try.underlying27 hi hz .i64 .i64 n n (by omega) (by omega) (by rw [hb]; omega) (by omega)
  rw [hs] at hr
  simpa using hr

/-! ### 9: zzToIDs -/
def IdsPost (n : Nat) (R : Nat → Id20) (w : World) (e : Ending) (w' : World) : Prop :=
  ∃ b' c', e = .returned (.slice (some ⟨b', 0, none⟩) n c') ∧ RowIn w' (some ⟨b', 0, none⟩) b' 0 n R ∧ w'.there b' 0 (n * 20) ∧ Below w.heap.size w w' ∧ w.heap.size ≤ b'

structure DoneI (w wr : World) (n k : Nat) (R : Nat → Id20) : Prop where
  row : RowIn wr (some ⟨w.heap.size, 0, none⟩) w.heap.size 0 k R
  th : wr.there w.heap.size 0 (n * 20)
  bel : Below w.heap.size w wr

theorem there_part {w : World} {b o n o' n' : Nat} (h : w.there b o n) (h1 : o ≤ o') (h2 : o' + n' ≤ o + n) : w.there b o' n' := fun j hj => by
  have := h (o' - o + j) (by omega)
  rwa [show o + (o' - o + j) = o' + j by omega] at this

theorem doneI_step {w wr : World} {n k : Nat} {R : Nat → Id20} (h : DoneI w wr n k R) (hk : k < n) : DoneI w (wr.setCells w.heap.size (k * 20) (R k).cells) n (k + 1) R := by
  refine ⟨⟨fun _ => rfl, fun j hj => ?_⟩, World.there_setCells h.th _ _ _, Below.setCells (Nat.le_refl _) _ _ _ h.bel⟩
  rw [Nat.zero_add]
  by_cases e : j = k
  · subst e
    exact World.rangeAt_setCells_same _ _ _ _ (by rw [Id20.cells_len]; exact there_part h.th (by omega) (by omega))
  · have := h.row.row j (by omega)
    rw [Nat.zero_add] at this
    exact World.rangeAt_setCells_apart this _ _ _ (Or.inr (by rw [Id20.cells_len]; omega))

set_option maxHeartbeats 2000000 in
theorem ids_any (a : Option Addr) (b off n c : Nat) (R : Nat → Id20) (w : World) (hn : n ≤ 52428) (h : RowIn w a b off n R) :
    Calls Try.prog 9 #[.slice a n c] w (IdsPost n R w) := by
  obtain ⟨z, hzs, hmk⟩ := make_ids n (by omega)
  have H : Hid _ := h
  have HZ : Hid _ := hzs
  clear h hzs
  go_enter Try.func9, Try.ntmps9
  go_wp2
  go_loopw [10] (fun i wr => ∃ (k : Nat), k ≤ n ∧ i = .int .i64 k ∧ DoneI w wr n k R) (fun i _ => n - (intOf i).toNat)
  case atStart => exact ⟨0, Nat.zero_le _, rfl, ⟨fun _ => rfl, fun j hj => by omega⟩, there_new w z 32 0 (n * 20) (by rw [HZ.out]; omega), (Below.refl _ _).alloc (Nat.le_refl _) _⟩
  case round =>
    obtain ⟨k, hk, rfl, hD⟩ := hrel
    have HD : Hid _ := hD
    clear hD
    by_cases hlt : k < n
    · obtain rfl := H.out.at_ (by omega)
      have HRk : Hid (wr.rangeAt b (off + k * 20) (R k).cells) := Below.range (H.out.row k hlt) HD.out.bel
      have HT : Hid (wr.there w.heap.size (k * 20) 20) := there_part HD.out.th (by omega) (by omega)
      have hk0 : (0 : Int) ≤ (k : Int) := by omega
      have hk2 : (k : Int) < (n : Int) := by omega
      have HN : Hid _ := doneI_step HD.out hlt
      go_wp2_with (first | refine wpList_valueIf rfl (exec_load_mid 31 _ rfl _ _ rfl _ _ HRk.out Try.underlying31 rfl (id31 _)) ?_ | (refine wpList_put32 rfl _ _ rfl _ _ (R k) rfl rfl HT.out ?_; generalize wr.setCells w.heap.size (k * 20) (R k).cells = w2 at HN ⊢; clear HT))
      go_roundw
      case rel => exact ⟨k + 1, by omega, by go_num, HN.out⟩
      case measure => simp [intOf]; omega
    · go_wp2
      go_ret
      obtain rfl : k = n := by omega
      exact ⟨_, _, rfl, HD.out.row, HD.out.th, HD.out.bel, Nat.le_refl _⟩

/-! ### 19: slices.Clone -/
def flat (R : Nat → Id20) : Nat → List Value
  | 0 => []
  | k + 1 => flat R k ++ (R k).cells
theorem flat_len (R : Nat → Id20) : ∀ k, (flat R k).length = k * 20
  | 0 => by simp [flat]
  | k + 1 => by rw [flat, List.length_append, flat_len R k, Id20.cells_len]; omega
theorem flat_one (R : Nat → Id20) : ∀ k, ∀ u ∈ flat R k, u.oneCell' = true
  | 0, u, h => by cases h
  | k + 1, u, h => by
    rw [flat] at h
    rcases List.mem_append.1 h with h | h
    · exact flat_one R k u h
    · exact (R k).one u h
theorem flat_get (R : Nat → Id20) : ∀ (k j i : Nat), j < k → i < 20 → (flat R k)[j * 20 + i]? = (R j).cells[i]?
  | 0, _, _, h, _ => by omega
  | k + 1, j, i, h, hi => by
    rw [flat]
    by_cases e : j = k
    · subst e
      rw [List.getElem?_append_right (by rw [flat_len]; omega), flat_len]
      congr 1
      omega
    · have hm := Nat.mul_le_mul_right 20 (show j + 1 ≤ k by omega)
      rw [List.getElem?_append_left (by rw [flat_len]; omega)]
      exact flat_get R k j i (by omega) hi
theorem add_zero_addr (b j : Nat) : (⟨b, 0, none⟩ : Addr).add j = ⟨b, j, none⟩ := by
  by_cases h : j = 0
  · subst h; simp [Addr.add]
  · simp [Addr.add, h]
theorem flat_cells {w : World} {b n : Nat} {R : Nat → Id20} (h : RowIn w (some ⟨b, 0, none⟩) b 0 n R) : ∀ j u, (flat R n)[j]? = some u → w.cell? ((⟨b, 0, none⟩ : Addr).add j) = some u := fun j u hj => by
  have hl : j < n * 20 := by have := (List.getElem?_eq_some_iff.1 hj).1; rw [flat_len] at this; exact this
  have e : j = (j / 20) * 20 + j % 20 := by omega
  rw [e, flat_get R n (j / 20) (j % 20) (by omega) (by omega)] at hj
  have := h.row (j / 20) (by omega) (j % 20) u hj
  rw [add_zero_addr, e]
  rwa [Nat.zero_add] at this
theorem there_row {w : World} {g : Nat} {cur : Array Value} {t : TypeId} (h : w.heap[g]? = some (.cells cur t (0, 0))) (n : Nat) (hn : n ≤ cur.size) : w.there g 0 n := fun j hj => by
  refine ⟨?_, ?_⟩
  · rw [Nat.zero_add, cell_of_row _ _ j _ t (0, 0) h]
    simp; omega
  · simp [World.frozen?, h]

set_option maxHeartbeats 2000000 in
theorem clone_any (b n c : Nat) (R : Nat → Id20) (w : World) (hn : n ≤ 52428) (h : RowIn w (some ⟨b, 0, none⟩) b 0 n R) :
    Calls Try.prog 19 #[.slice (some ⟨b, 0, none⟩) n c] w (IdsPost n R w) := by
  have hq := fun w => Lib.run_eql_slice_nil (P := Try.prog) w 27 32 (some ⟨b, 0, none⟩) n c 0 0 Try.underlying27
  obtain ⟨i, hi, hzz⟩ := Option.map_eq_some_iff.1 infoz32b
  simp only [Prod.mk.injEq] at hzz
  obtain ⟨hz, hsz, hby⟩ := hzz
  obtain ⟨z, hz, hzs⟩ := Option.map_eq_some_iff.1 hz
  have HI : Hid (Try.prog.info? 32 = some i) := hi
  have HZ : Hid (i.zero = some z) := hz
  have HZS : Hid (z.cells.size = 20) := hzs
  have HSZ : Hid (i.size = 20) := hsz
  have HBY : Hid (i.bytes = 20) := hby
  have H : Hid _ := h
  have HB : Hid (Below w.heap.size w (w.alloc (.cells #[] 32))) := (Below.refl _ _).alloc (Nat.le_refl _) _
  have HOwn : Hid ((w.alloc (.cells #[] 32)).ownsRow w.heap.size 32 20 (.slice (some ⟨w.heap.size, 0, none⟩) 0 0) 0 []) := World.ownsRow_made w #[] 0 (Nat.le_refl _) (by omega) (by simp)
  clear h hi hz hzs hsz hby
  go_enter Try.func19, Try.ntmps19
  go_wp2_with (first | (refine wpList_append_own (w.alloc (.cells #[] 32)) rfl _ _ 27 rfl w.heap.size 32 i z 20 20 Try.underlying27 HI.out HZ.out HSZ.out HBY.out HZS.out (by omega) _ 0 [] rfl HOwn.out ⟨b, 0, none⟩ n c (flat R n) rfl (flat_len R n) (flat_cells (Below.row H.out HB.out)) (flat_one R n) (by have hmax : maxLen = 9223372036854775807 := rfl; omega) (by omega) HB.out.size ?_; intro v' w' ho hg hnil; have HO : Hid _ := ho; have HG : Hid _ := hg; have HNil : Hid _ := hnil; clear ho hg hnil HOwn))
  go_ret
  have hbel : Below w.heap.size w w' := HB.out.trans ⟨HG.out.os, HG.out.tape, HG.out.output, HG.out.size, fun k hk => HG.out.block k (by have := HB.out.size; omega) (fun e => by cases e; exact absurd hk (Nat.lt_irrefl _))⟩
  rcases HO.out.2 with ⟨hv, _⟩ | ⟨g, cap, cur, hv, hg0, hgh, hnc, _, hcs, htk⟩
  · have := (HNil.out.1 hv).1
    cases this
  · rw [Nat.zero_add] at hv hnc
    subst hv
    refine ⟨g, cap, rfl, ⟨fun _ => rfl, fun j hj i u hiu => ?_⟩, there_row hgh (n * 20) (by rw [hcs]; exact Nat.mul_le_mul_right 20 hnc), hbel, hg0⟩
    have hi20 : i < 20 := by have := (List.getElem?_eq_some_iff.1 hiu).1; rw [Id20.cells_len] at this; exact this
    have ho2 : w'.ownsRow w.heap.size 32 20 (.slice (some ⟨g, 0, none⟩) n cap) n (flat R n) := by
      have q := HO.out
      simp only [Nat.zero_add, List.nil_append] at q
      exact q
    have := ho2.cells rfl (j * 20 + i) u (by rw [flat_get R n j i hj hi20]; exact hiu)
    rw [add_zero_addr] at this
    rw [Nat.zero_add]; exact this
end Go.Proofs.Qxb6608999a
