import Derived.Test.Qxb6615073aDoorAns3
import Derived.Maps.OwnSet
namespace Go.Proofs.Qxb6615073aDoor
open Go.RowKit
open Go.ChangeMaps (setBlock)

/-- 'delete', by its run's equation. -/
theorem wpList_delete_run {P : Program} {w w1 : World} {ops : Array Oper} {rest : List Oper} {o : Oper} {a : Act} {Q : Exit → Act → World → Prop} (hg : o.guard = none) (m x : Operand) (t k : TypeId)
    (hop : o.op = Op.call { callee := Callee.builtin Builtin.delete, args := #[m, x], argTypes := #[t, k] }) {mv xv : Value} (hm : a.eval m = mv) (hx : a.eval x = xv)
    (hrun : ∀ ty, (Builtin.delete_ #[t, k] ty #[mv, xv]).run P w = .ok (.tuple #[]) w1) (h : wpList P ops Q rest (a.put o.dst (.tuple #[])) w1) : wpList P ops Q (o :: rest) a w := by
  refine wpList_plain hg fun K' hK' => ?_
  unfold Oper.wp execOp
  simp only [hop, resolve, invoke, builtin, Sem.run_bind, Sem.run_pure, Result.andThen_ok, List.map_toArray, List.map_cons, List.map_nil, hm, hx, hrun]
  exact hK' _ _ h

section
variable {K : Cx} {X : Tx} {G : Nat → Prop} {ge L : Int} {N : Nat} {q : Bool} {w : World}
theorem Inv.dropRole (h : Inv K X G ge L N q w) {s : ByteArray} (hs : s.size ≤ maxLen) :
    ∃ w2, (∀ ty, (Builtin.delete_ #[50, 9] ty #[.map (some K.R), .string s]).run Tryd.prog w = .ok (.tuple #[]) w2) ∧ Inv K X G ge L N q w2 ∧ Fr K.B (· = K.R) w w2 := by
  obtain ⟨es, ck, hb, F, hsz, hx⟩ := h.mapR
  obtain ⟨es', hrun, F', hs', _, _, hwho⟩ := fit_drop_who (ty := 0) law9 Tryd.underlying50 hb F (keyS hs)
  refine ⟨_, fun ty => ?_, h.setRoles (Nat.le_refl _) F' (Nat.le_trans hs' hsz) (fun x hx' => hx x ((hwho x).1 hx').1), ⟨rfl, rfl, rfl, by simp [setBlock], fun b _ hy _ => blk_setBlock hy⟩⟩
  exact hrun
end

set_option maxRecDepth 100000 in
set_option maxHeartbeats 4000000 in
theorem prune_any {K : Cx} {X : Tx} {G : Nat → Prop} {ge L : Int} {N : Nat} {q : Bool} {w : World} (h : Inv K X G ge L N q w) {a : Option Addr} {n cp sb : Nat} {S : Nat → ByteArray} (hS : StrsRow w a sb n S) (hN : N < 500000) :
    Calls Tryd.prog 28 #[ptr X.T, .slice a n cp] w fun e w' => e = .returned (.tuple #[]) ∧ Inv K X G ge L (N + 2 * n) q w' ∧ Fr K.B (fun b => Touch K X G b ∨ b = K.R) w w' := by
  have hn3 : n ≤ 32768 := hS.2.2
  have H : Hid (Inv K X G ge L N q w) := h
  have HS : Hid (StrsRow w a sb n S) := hS
  clear h hS
  unfold ptr
  go_enter Tryd.func28, Tryd.ntmps28
  go_wp2
  go_loopw [13] (fun i wr => ∃ k : Nat, k ≤ n ∧ i = .int .i64 k ∧ Inv K X G ge L (N + 2 * k) q wr ∧ Fr K.B (fun b => Touch K X G b ∨ b = K.R) w wr) (fun i _ => n - (intOf i).toNat)
  case atStart => exact ⟨0, Nat.zero_le _, rfl, H.out, Fr.refl _ _ _⟩
  case round =>
    obtain ⟨k, hk, rfl, hinv, hfr⟩ := hrel
    by_cases hlt : k < n
    · have hS' : StrsRow wr a sb n S := HS.out.kept (fun b cs hb => by
        rw [hb]
        refine hfr.keeps hb (fun y => ?_) (by decide)
        rcases y with y | y
        · exact H.out.not_touch hb (Or.inr rfl) y
        · obtain ⟨_, _, e⟩ := H.out.Rmap
          rw [y, e] at hb
          simp at hb)
      obtain rfl := (hS'.1 (by omega)).1
      have hck : wr.cell? ⟨sb, k, none⟩ = some (.string (S k)) := (hS'.1 (by omega)).2.cell hlt
      have hsk : (S k).size ≤ maxLen := HS.out.2.1 k hlt
      have t0 : wr.cell? ⟨X.T, 0, none⟩ = some (.pointer (some ⟨K.c, 0, none⟩)) := hinv.txn.c0
      have c7 := hinv.rec_.c7
      generalize hSk : S k = s at *
      have Hs : Hid (s.size ≤ maxLen) := hsk
      rcases hinv.lookRole hsk with hl | ⟨b, hGb, hl⟩
      · have HH : Hid (Inv K X G ge L (N + 2 * k) q wr ∧ Fr K.B (fun b => Touch K X G b ∨ b = K.R) w wr) := ⟨hinv, hfr⟩
        clear hinv hfr hS' hSk hsk
        go_wp2
        go_roundw
        case rel => exact ⟨k + 1, by omega, by go_num, HH.out.1.more (by omega), HH.out.2⟩
        case measure => simp [intOf]; omega
      · obtain ⟨ho, e, ch, u, r0, r1, r2, r3, r4, f0, f1, f2, _⟩ := hinv.rolCells hGb
        have HH : Hid (Inv K X G ge L (N + 2 * k) q wr ∧ Fr K.B (fun b => Touch K X G b ∨ b = K.R) w wr) := ⟨hinv, hfr⟩
        clear hinv hfr hS' hSk hsk
        unfold ptr at hl
        go_wp2_with fail
        refine (heldAt_any HH.out.1 hGb (by omega)).mono ?_
        rintro e w1 ⟨bb, rfl, hi1, hf1⟩
        have H1 : Hid (Inv K X G ge L (N + 2 * k + 1) q w1 ∧ Fr K.B (fun b => Touch K X G b ∨ b = K.R) w w1) := ⟨hi1, HH.out.2.trans hf1 (fun _ y => y) (fun b _ y => y.elim (fun y => Or.inl (Or.inl y)) (fun y => Or.inl (Or.inr (Or.inr (Or.inl y)))))⟩
        clear hi1 hf1 HH hl t0 c7 hck r0 r1 r2 r3 r4 f0 f1 f2
        cases bb
        · obtain ⟨w2, e1, e2, e3, e4⟩ := range_members H1.out.1.mapM
          have t0 : w1.cell? ⟨X.T, 0, none⟩ = some (.pointer (some ⟨K.c, 0, none⟩)) := H1.out.1.txn.c0
          have c6 := H1.out.1.rec_.c6
          have HN : Hid (w1.heap.size ≠ K.M) := fun e => by have := H1.out.1.mapM.lt; omega
          have HE : Hid (IterAt K w1.heap.size true X.cur w2 ∧ Below w1.heap.size w1 w2) := ⟨e2, e3⟩
          clear e2 e3
          go_wp2
          go_loopw [8] (fun st wr => st = .bool false ∧ ∃ fresh, IterAt K w1.heap.size fresh X.cur wr ∧ Inv K X G ge L (N + 2 * k + 1) q wr ∧ Fr K.B (· = w1.heap.size) w1 wr) (fun _ wr => iterLeft w1.heap.size wr)
          case atStart => exact ⟨rfl, true, HE.out.1, H1.out.1.below HE.out.2, Fr.of_below HE.out.2⟩
          case round =>
            obtain ⟨rfl, fresh, hit, hinv, hfr⟩ := hrel
            cases fresh
            · have hdn := next_done hit
              obtain ⟨w5, hd, i5, f5⟩ := hinv.dropRole Hs.out
              have u0 : wr.cell? ⟨X.T, 0, none⟩ = some (.pointer (some ⟨K.c, 0, none⟩)) := hinv.txn.c0
              have d7 := hinv.rec_.c7
              obtain ⟨ho5, e5, ch5, u5, r0, r1, r2, r3, r4, f0, f1, f2, _⟩ := i5.rolCells hGb
              have H5 : Hid (Inv K X G ge L (N + 2 * k + 1) q w5 ∧ Fr K.B (fun b => Touch K X G b ∨ b = K.R) w w5) := ⟨i5, (H1.out.2.trans hfr (fun _ y => y) (fun b hb y => by have := H1.out.2.size; omega)).trans f5 (fun _ y => y) (fun b _ y => Or.inr y)⟩
              clear hit hinv hfr i5 f5 r0 r2 r3 r4 f0 f1 f2
              go_wp2_with (at_delete; refine wpList_delete_run rfl _ _ 50 9 rfl rfl rfl hd ?_)
              refine (emit_any K X.T X.now ge (N + 2 * k + 1) w5 _ _ H5.out.1.txn H5.out.1.base (by omega)).mono ?_
              rintro e w6 ⟨rfl, hT6, hf6⟩
              have H6 : Hid (Inv K X G ge L (N + 2 * k + 2) q w6 ∧ Fr K.B (fun b => Touch K X G b ∨ b = K.R) w w6) := ⟨H5.out.1.emitted hT6 hf6, H5.out.2.trans hf6 (fun _ y => y) (fun b _ y => Or.inl (Or.inl y))⟩
              clear hT6 hf6
              go_wp2
              go_roundw
              case rel => exact ⟨k + 1, by omega, by go_num, H6.out.1, H6.out.2⟩
              case measure => simp [intOf]; omega
            · obtain ⟨w3, d1, d2, d3, d4, d5, d6, d7, d8⟩ := next_fresh hit HN.out 0
              have hi3 : Inv K X G ge L (N + 2 * k + 1) q w3 := hinv.same (by omega) (fun b _ hn => d8 b (fun e => by subst e; obtain ⟨_, _, _, _, e⟩ := hit; exact hn _ _ _ _ e))
              have f3 : Fr K.B (· = w1.heap.size) wr w3 := ⟨d5, d6, d7, by omega, fun b _ hy _ => d8 b hy⟩
              obtain ⟨chc, ac, nc, cpc, sbc, Sc, utc, jdc, enc, hm1, hm2, _, _⟩ := hi3.mem X.cur hi3.curIn
              have m6 : w3.cell? ⟨X.cur, 6, none⟩ = some (.slice ac nc cpc) := by rw [cell_of hm1]; rfl
              have H3 : Hid (Inv K X G ge L (N + 2 * k + 1) q w3 ∧ IterAt K w1.heap.size false X.cur w3 ∧ Fr K.B (· = w1.heap.size) w1 w3 ∧ iterLeft w1.heap.size wr = 1) := ⟨hi3, d3, hfr.trans f3 (fun _ y => y) (fun _ _ y => y), iterLeft_of hit⟩
              have hnc : nc ≤ 9223372036854775807 := by have := hm2.2.2; omega
              have HC : Hid (StrsIn w3 ac sbc 0 nc Sc) := hm2.in_
              clear hi3 d3 f3 hm1 hm2 hit hinv hfr d4 d5 d6 d7 d8
              unfold ptr at *
              go_wp2_with fail
              refine (contains_any ac sbc 0 nc cpc Sc s _ hnc HC.out).mono ?_
              rintro e w4 ⟨bb, rfl, rfl⟩
              cases bb
              · go_wp2
                go_roundw
                case rel => exact ⟨rfl, false, H3.out.2.1, H3.out.1, H3.out.2.2.1⟩
                case measure => rw [H3.out.2.2.2]; exact Nat.lt_of_le_of_lt (Nat.le_of_eq (iterLeft_of H3.out.2.1)) (by decide)
              · go_wp2
                go_roundw
                case rel => exact ⟨k + 1, by omega, by go_num, H3.out.1.more (by omega), H1.out.2.trans H3.out.2.2.1 (fun _ y => y) (fun b hb y => by have := H1.out.2.size; omega)⟩
                case measure => simp [intOf]; omega
        · go_wp2
          go_roundw
          case rel => exact ⟨k + 1, by omega, by go_num, H1.out.1.more (by omega), H1.out.2⟩
          case measure => simp [intOf]; omega
    · obtain rfl : k = n := by omega
      go_wp2
      go_end0
      exact ⟨rfl, hinv, hfr⟩
end Go.Proofs.Qxb6615073aDoor
