import Derived.Test.Qxb6615539aFmtFloat
import Derived.Deep.RegionHeld3
import Derived.Deep.DeepCutAuto
import Derived.Deep.DrawnRows
namespace Go.Proofs.Qxb6615539aFmt
open Go.RowKit
open Extern.Stop (cell)

theorem exec_load_mid {op : Oper} {a : Act} {w : World} (ty : TypeId) (x : Operand) (ho : op.op = .load ty x) (b o : Nat) (hx : a.eval x = .pointer (some ⟨b, o, none⟩)) (cs : List Value) (d : TypeDesc) (hc : w.rangeAt b o cs)
    (hu : Tryf.prog.underlying ty = some d) (hd : d.isRow = true) (hi : (Tryf.prog.info? ty).map (·.size) = some cs.length) : (execOp a.eval op).run Tryf.prog w = .ok (.value (.agg cs.toArray)) w := by
  unfold execOp
  simp only [ho, hx, Instr.loadAt, Instr.sureAddr, Sem.run_bind, Sem.run_pure, Result.andThen_ok, run_loadVar_mid w b o ty cs d hc hu hd hi]

theorem exec_build39 {op : Oper} {a : Act} {w : World} (x y : Operand) (ho : op.op = .build 39 #[(0, x), (1, y)]) (n : Int) (u : Id16) (hx : a.eval x = .int .u64 n) (hy : a.eval y = .agg u.cells.toArray) :
    (execOp a.eval op).run Tryf.prog w = .ok (.value (.agg (tagCells n u).toArray)) w := by
  unfold execOp
  simp only [ho, List.map_toArray, List.map_cons, List.map_nil, hx, hy, Sem.run_bind, built39, Result.andThen_ok, Sem.run_pure]

theorem exec_build43 {op : Oper} {a : Act} {w : World} (x0 x1 x2 x3 x4 x5 x6 x7 x8 x9 x10 : Operand) (ho : op.op = .build 43 #[(0, x0), (1, x1), (2, x2), (3, x3), (4, x4), (5, x5), (6, x6), (7, x7), (8, x8), (9, x9), (10, x10)]) (r : Rep) (p : Option Addr) (l c : Nat)
    (h0 : a.eval x0 = .int .u64 r.id) (h1 : a.eval x1 = .int .u8 r.op) (h2 : a.eval x2 = .string r.key) (h3 : a.eval x3 = .agg (tagCells r.tn r.tw).toArray) (h4 : a.eval x4 = .slice p l c) (h5 : a.eval x5 = .agg (tagCells r.cn r.cw).toArray) (h6 : a.eval x6 = .agg (tagCells r.rn r.rw).toArray)
    (h7 : a.eval x7 = .bool r.fenced) (h8 : a.eval x8 = .bool r.deleted) (h9 : a.eval x9 = .int .u64 r.server) (h10 : a.eval x10 = .int .u64 r.revision) :
    (execOp a.eval op).run Tryf.prog w = .ok (.value (.agg (msgCells r (.slice p l c)).toArray)) w := by
  unfold execOp
  simp only [ho, List.map_toArray, List.map_cons, List.map_nil, h0, h1, h2, h3, h4, h5, h6, h7, h8, h9, h10, Sem.run_bind, built43, Result.andThen_ok, Sem.run_pure]

theorem wpList_value {ops : Array Oper} {rest : List Oper} {op : Oper} {a : Act} {w : World} {Q : Exit → Act → World → Prop} {v : Value} (hg : op.guard = none) (h : (execOp a.eval op).run Tryf.prog w = .ok (.value v) w)
    (hn : wpList Tryf.prog ops Q rest (a.put op.dst v) w) : wpList Tryf.prog ops Q (op :: rest) a w :=
  wpList_plain hg fun _ hK => by
    unfold Oper.wp
    rw [h]
    exact hK _ _ hn

theorem ownAt_drew {w : World} {g o L : Nat} {C : Value → List Value} {x : Option (List UInt8)} (h : OwnAt w g o L C x) : OwnAt w.drew g o L C x :=
  h.below (Below.refl _ w).drew

/-! ### 15: zzMessages -/
def MsgsPost (n : Nat) (R : Nat → Rep) (w : World) (e : Ending) (w' : World) : Prop :=
  ∃ a' b' c', e = .returned (.slice a' n c') ∧ MsgIn w' w.heap.size a' b' 0 n R ∧ Below w.heap.size w w'

theorem msgs_nil (R : Nat → Rep) (c : Nat) (w : World) : Calls Tryf.prog 15 #[.slice none 0 c] w (MsgsPost 0 R w) := by
  have hq := fun w => Lib.run_eql_slice_nil (P := Tryf.prog) w 22 49 none 0 c 0 0 Tryf.underlying22
  go_enter Tryf.func15, Tryf.ntmps15
  go_wp2
  go_ret
  exact ⟨_, 0, 0, rfl, ⟨fun h => by omega, fun j h => by omega⟩, Below.refl _ _⟩

def DoneMsgs (wr : World) (g k : Nat) (R : Nat → Rep) : Prop := ∀ j, j < k → OwnAt wr g (j * 60) 60 (msgCells (R j)) (R j).val

theorem done_msgs {wr : World} {g k : Nat} {R : Nat → Rep} (h : DoneMsgs wr g k R) (n : Nat) (hn : k = n) : MsgIn wr g (some ⟨g, 0, none⟩) g 0 n R := by
  subst hn
  refine ⟨fun _ => rfl, fun j hj => ?_⟩
  obtain ⟨v, h1, _, h3, h4⟩ := h j hj
  exact ⟨v, by rw [Nat.zero_add]; exact h1, h3, fun q n c e => Nat.le_of_lt (h4 q n c e)⟩

set_option maxRecDepth 100000 in
set_option maxHeartbeats 4000000 in
theorem msgs_some (A : Addr) (b off n c : Nat) (R : Nat → Rep) (w : World) (hs : Small n R) (h : RowIn w (some A) b off n R) :
    Calls Tryf.prog 15 #[.slice (some A) n c] w (MsgsPost n R w) := by
  have hn := hs.1
  have hq := fun w => Lib.run_eql_slice_nil (P := Tryf.prog) w 22 49 (some A) n c 0 0 Tryf.underlying22
  obtain ⟨z, hmk⟩ := make_wide 41 43 60 176 Tryf.underlying41 Tryf.infoz43 n (by omega) (by omega)
  have hzs : (madeCells z (n * 60)).size = n * 60 := size_madeCells _ _
  generalize madeCells z (n * 60) = zc at hmk hzs
  have H : Hid (RowIn w (some A) b off n R) := h
  have HS : Hid (Small n R) := hs
  clear h hs
  go_enter Tryf.func15, Tryf.ntmps15
  go_wp2
  go_loopw [4] (fun i wr => ∃ k : Nat, k ≤ n ∧ i = .int .i64 k ∧ DoneMsgs wr w.heap.size k R ∧ wr.there w.heap.size 0 (n * 60) ∧ w.heap.size < wr.heap.size ∧ Below w.heap.size w wr) (fun i _ => n - (intOf i).toNat)
  case atStart =>
    exact ⟨0, Nat.zero_le _, rfl, fun j hj => by omega, there_new w zc 43 0 (n * 60) (by omega), by simp, (Below.refl _ _).alloc (Nat.le_refl _) _⟩
  case round =>
    obtain ⟨k, hk, rfl, hrow, hth, hlt0, hbel⟩ := hrel
    have HD : Hid (DoneMsgs wr w.heap.size k R) := hrow
    have HT : Hid (wr.there w.heap.size 0 (n * 60)) := hth
    clear hrow hth
    by_cases hlt : k < n
    · obtain rfl := Option.some.inj (H.out.at_ (by omega))
      obtain ⟨v, hr0, hv0⟩ := H.out.rep k hlt
      have HR := fieldsAt hr0
      have hb : b < w.heap.size := World.block_lt_of_cell? w _ (fieldsAt hr0).f0
      have hlt1 : (k : Int) < (n : Int) := by omega
      have hlt2 : (0 : Int) ≤ (k : Int) := by omega
      obtain ⟨r, hr⟩ : ∃ r, r = R k := ⟨_, rfl⟩
      rw [← hr] at HR
      have F0 : ∀ w', Below w.heap.size w w' → w'.cell? ⟨b, off + k * 59, none⟩ = some (.int .u64 r.id) := fun w' hw => cell_later hw HR.f0
      have F1 : ∀ w', Below w.heap.size w w' → w'.cell? ⟨b, off + k * 59 + 1, none⟩ = some (.int .u8 r.op) := fun w' hw => cell_later hw HR.f1
      have F2 : ∀ w', Below w.heap.size w w' → w'.cell? ⟨b, off + k * 59 + 2, none⟩ = some (.string r.key) := fun w' hw => cell_later hw HR.f2
      have F3 : ∀ w', Below w.heap.size w w' → w'.cell? ⟨b, off + k * 59 + 3, none⟩ = some (.int .u64 r.tn) := fun w' hw => cell_later hw HR.f3
      have F4 : ∀ w', Below w.heap.size w w' → w'.rangeAt b (off + k * 59 + 4) r.tw.cells := fun w' hw => Below.range HR.f4 hw
      have F20 : ∀ w', Below w.heap.size w w' → w'.cell? ⟨b, off + k * 59 + 20, none⟩ = some v := fun w' hw => cell_later hw HR.f20
      have F21 : ∀ w', Below w.heap.size w w' → w'.cell? ⟨b, off + k * 59 + 21, none⟩ = some (.int .u64 r.cn) := fun w' hw => cell_later hw HR.f21
      have F22 : ∀ w', Below w.heap.size w w' → w'.rangeAt b (off + k * 59 + 22) r.cw.cells := fun w' hw => Below.range HR.f22 hw
      have F38 : ∀ w', Below w.heap.size w w' → w'.cell? ⟨b, off + k * 59 + 38, none⟩ = some (.int .u64 r.rn) := fun w' hw => cell_later hw HR.f38
      have F39 : ∀ w', Below w.heap.size w w' → w'.rangeAt b (off + k * 59 + 39) r.rw.cells := fun w' hw => Below.range HR.f39 hw
      have F55 : ∀ w', Below w.heap.size w w' → w'.cell? ⟨b, off + k * 59 + 55, none⟩ = some (.bool r.fenced) := fun w' hw => cell_later hw HR.f55
      have F56 : ∀ w', Below w.heap.size w w' → w'.cell? ⟨b, off + k * 59 + 56, none⟩ = some (.bool r.deleted) := fun w' hw => cell_later hw HR.f56
      have F57 : ∀ w', Below w.heap.size w w' → w'.cell? ⟨b, off + k * 59 + 57, none⟩ = some (.int .u64 r.server) := fun w' hw => cell_later hw HR.f57
      have F58 : ∀ w', Below w.heap.size w w' → w'.cell? ⟨b, off + k * 59 + 58, none⟩ = some (.int .u64 r.revision) := fun w' hw => cell_later hw HR.f58
      have HRk : Hid (r = R k) := hr
      clear HR hr
      have hu36 := Tryf.underlying36
      have hi1 : (Tryf.prog.info? 36).map (·.size) = some r.tw.cells.length := by rw [Id16.cells_len]; exact info36
      have hi2 : (Tryf.prog.info? 36).map (·.size) = some r.cw.cells.length := by rw [Id16.cells_len]; exact info36
      have hi3 : (Tryf.prog.info? 36).map (·.size) = some r.rw.cells.length := by rw [Id16.cells_len]; exact info36
      clear hr0
      go_wp2_with fail
      dsimp only [List.append]
      refine wp_region_floatl (fun w' => Below w.heap.size w w') [(0, 33), (34, 42)] [33, 76, 77, 78] (by kernel_rfl) (by kernel_rfl) hbel.drew ?_
      intro OPS hO
      simp only [List.map_cons, List.map_nil, List.getElem?_cons_succ, List.getElem?_cons_zero, List.cons.injEq, and_true] at hO
      obtain ⟨h33, h76, h77, h78⟩ := hO
      simp only [segs, List.drop_succ_cons, List.drop_zero, List.take_succ_cons, List.take_zero, List.cons_append, List.nil_append, List.append_nil]
      have H33 : Hid _ := h33
      have H76 : Hid _ := h76
      have H77 : Hid _ := h77
      have H78 : Hid _ := h78
      clear h33 h76 h77 h78
      repeat (apply take_step rfl; (case h => (intro wx hx; first | exact exec_load_mid 36 _ rfl _ _ rfl _ _ (F4 wx hx) hu36 rfl hi1 | exact exec_load_mid 36 _ rfl _ _ rfl _ _ (F22 wx hx) hu36 rfl hi2 | exact exec_load_mid 36 _ rfl _ _ rfl _ _ (F39 wx hx) hu36 rfl hi3 | exact exec_build39 _ _ rfl _ _ rfl rfl | (go_simp; try with_reducible rfl))); try simp only [Act.put, List.setIfInBounds_toArray, List.set_cons_zero, List.set_cons_succ])
      refine take_nil ?_
      refine rest_step H33.out ?_
      have hvd : ValIn wr.drew v (R k).val := Below.val hv0 hbel.drew
      have HV : Hid (ValIn wr.drew v (R k).val) := hvd
      clear hvd hv0 F0 F1 F2 F3 F4 F20 F21 F22 F38 F39 F55 F56 F57 F58
      go_wp2_with (go_at_call 21; refine (copy_any v (R k).val wr.drew HV.out (HS.out.2 k hlt)).mono ?_)
      rintro e w2 ⟨v', rfl, hv', hb2, hq2⟩
      have hb2' : Below w.heap.size w w2 := hbel.drew.trans (hb2.mono (Nat.le_of_lt hlt0))
      obtain ⟨a4, n4, c4, rfl, hn4⟩ := valIn_slice hv'
      clear hn4
      have HV' : Hid (ValIn w2 (.slice a4 n4 c4) (R k).val) := hv'
      have HQ2 : Hid (∀ q n c, Value.slice a4 n4 c4 = .slice (some q) n c → q.block = wr.heap.size) := hq2
      clear hv' hq2
      go_wp2_with fail
      refine onlyN_mk ⟨hb2', ?_⟩
      refine rest_step H76.out ?_
      refine wpList_value rfl (exec_build43 _ _ _ _ _ _ _ _ _ _ _ rfl r a4 n4 c4 rfl rfl rfl rfl rfl rfl rfl rfl rfl rfl rfl) ?_
      go_wp2_with fail
      refine onlyN_mk ⟨hb2', ?_⟩
      refine rest_step H77.out ?_
      go_wp2_with fail
      refine onlyN_mk ⟨hb2', ?_⟩
      refine rest_step H78.out ?_
      have hth2 : w2.there w.heap.size 0 (n * 60) := there_below (w := wr.drew) (by simpa using HT.out) hb2
      have hth3 : w2.there w.heap.size (k * 60) (msgCells r (.slice a4 n4 c4)).toArray.size := by
        rw [show (msgCells r (.slice a4 n4 c4)).toArray.size = 60 from msgCells_len _ _]; exact there_part hth2 (Nat.zero_le _) (by omega)
      have hi' : (Tryf.prog.info? 43).map (·.size) = some (msgCells r (.slice a4 n4 c4)).toArray.size := by rw [show (msgCells r (.slice a4 n4 c4)).toArray.size = 60 from msgCells_len _ _]; exact info43
      have h1c := all_oneCell_toArray (msgCells_one r (.slice a4 n4 c4) rfl)
      refine wpList_store_mid rfl 43 _ _ rfl _ _ _ rfl rfl hth3 hi' h1c ?_
      rw [List.toList_toArray]
      go_wp2_with fail
      have hb3 : Below w.heap.size w (w2.setCells w.heap.size (k * 60) (msgCells r (.slice a4 n4 c4))) := Below.setCells (Nat.le_refl _) _ _ _ hb2'
      have hown3 : Hid (DoneMsgs (w2.setCells w.heap.size (k * 60) (msgCells r (.slice a4 n4 c4))) w.heap.size (k + 1) R) := fun j hj => by
        by_cases e : j = k
        · subst e
          have hne : ∀ q n c, Value.slice a4 n4 c4 = .slice (some q) n c → q.block ≠ w.heap.size := fun q n c e => by
            have := HQ2.out q n c e; omega
          have hlo : LoV (w.heap.size + 1) (Value.slice a4 n4 c4) := fun q n c e => by
            have := HQ2.out q n c e; omega
          rw [← HRk.out] at *
          refine ⟨.slice a4 n4 c4, World.rangeAt_setCells_same _ _ _ _ hth3, msgCells_len _ _, val_setCells ?_ _ _ hne, hlo⟩
          have := HV'.out
          rw [← HRk.out] at this
          exact this
        · have hd : OwnAt wr.drew w.heap.size (j * 60) 60 (msgCells (R j)) (R j).val := ownAt_drew (HD.out j (by omega))
          exact (hd.below hb2).setCells _ _ (Or.inl (by omega))
      have hth4 : Hid ((w2.setCells w.heap.size (k * 60) (msgCells r (.slice a4 n4 c4))).there w.heap.size 0 (n * 60)) := World.there_setCells hth2 _ _ _
      have hg3 : w.heap.size < (w2.setCells w.heap.size (k * 60) (msgCells r (.slice a4 n4 c4))).heap.size := by
        rw [setCells_size]; have := hb2.size; simp at this; omega
      generalize w2.setCells w.heap.size (k * 60) (msgCells r (.slice a4 n4 c4)) = w3 at *
      refine onlyN_mk ⟨hb3, rest_nil ?_⟩
      go_wp2_with fail
      go_roundw
      case rel => exact ⟨k + 1, by omega, by go_num, hown3.out, hth4.out, hg3, hb3⟩
      case measure => simp [intOf]; omega
    · go_wp2_with fail
      go_ret
      exact ⟨_, w.heap.size, n, rfl, done_msgs HD.out n (by omega), hbel⟩

theorem msgs_any (a : Option Addr) (b off n c : Nat) (R : Nat → Rep) (w : World) (hs : Small n R) (h : RowIn w a b off n R) :
    Calls Tryf.prog 15 #[.slice a n c] w (MsgsPost n R w) := by
  cases a with
  | none =>
    have : n = 0 := by
      cases n with
      | zero => rfl
      | succ m => exact absurd (h.at_ (by omega)) (by intro e; cases e)
    subst this
    exact msgs_nil R c w
  | some A => exact msgs_some A b off n c R w hs h
end Go.Proofs.Qxb6615539aFmt
