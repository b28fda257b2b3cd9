import Derived.Test.Qxb6615539aFmtLaw6
import Derived.Test.Qxb6615539aFmtInsLaw
import Derived.Test.Qxb6615539aFmtCopyLo
import Derived.Test.Qxb6615539aFmtBytes19
import Derived.Great.BuildSlice
import Derived.Deep.DeepAppendRoom
namespace Go.Proofs.Qxb6615539aFmt
open Go.RowKit
open Extern.Stop (cell)
set_option linter.unusedSimpArgs false

theorem fill_one (z : Array Value) (hz : z.size = 59) (r : Rep) (v : Value) : Instr.fill (fun i => some (i * 59, 59)) z [(0, .agg (repCells r v).toArray)] = some (repCells r v).toArray := by
  have hs : (Value.agg (repCells r v).toArray).cells = (repCells r v).toArray := rfl
  have hl : (repCells r v).toArray.size = 59 := repCells_len r v
  obtain ⟨q, hq, hsz, hk⟩ := Great.fill_dense (s := 59) (by omega) [.agg (repCells r v).toArray] 0 z (fun u hu => by obtain rfl := List.mem_singleton.1 hu; rw [hs]; exact hl) (by simp [hz])
  have e : q = (repCells r v).toArray := by
    refine Array.ext_getElem? fun k => ?_
    rw [hk k]
    by_cases h : k < 59
    · rw [if_pos (by simp; omega)]
      simp only [Nat.sub_zero, Nat.div_eq_of_lt h, Nat.mod_eq_of_lt h, List.getElem?_cons_zero, Option.bind_some, hs]
    · rw [if_neg (by simp; omega), Array.getElem?_eq_none (by omega), Array.getElem?_eq_none (by omega)]
  rw [e] at hq
  exact hq

theorem wpList_build1 {ops : Array Oper} {rest : List Oper} {op : Oper} {a : Act} {w : World} {Q : Exit → Act → World → Prop} (hg : op.guard = none) (x : Operand) (ho : op.op = .buildSlice 22 1 #[(0, x)]) (r : Rep) (v : Value) (hx : a.eval x = .agg (repCells r v).toArray)
    (h : wpList Tryf.prog ops Q rest (a.put op.dst (.slice (some ⟨w.heap.size, 0, none⟩) 1 1)) (w.alloc (.cells (repCells r v).toArray 49))) : wpList Tryf.prog ops Q (op :: rest) a w := by
  obtain ⟨i, hi, hzz⟩ := Option.map_eq_some_iff.1 Tryf.infoz49
  simp only [Prod.mk.injEq] at hzz
  obtain ⟨hz, hsz, _⟩ := hzz
  obtain ⟨z, hz⟩ := Option.isSome_iff_exists.1 hz
  refine wpList_buildSlice hg 22 49 1 #[(0, x)] ho (repCells r v).toArray i z Tryf.underlying22 hi hz (by rw [hsz]; omega) (by rw [hsz]; omega) ?_ h
  rw [hsz]
  have e : ((#[(0, x)] : Array (Nat × Operand)).map fun (p : Nat × Operand) => (p.1, a.eval p.2)).toList = [(0, .agg (repCells r v).toArray)] := by simp [hx]
  exact (congrArg _ e).trans (fill_one _ (by simp) r v)

theorem wpList_app {ops : Array Oper} {rest : List Oper} {op : Oper} {a : Act} {w : World} {Q : Exit → Act → World → Prop} (hg : op.guard = none) (s x : Operand) (ho : op.op = .call { callee := .builtin .append, args := #[s, x], argTypes := #[22, 22] })
    (base g k cap : Nat) (xs : List Value) (hs : a.eval s = .slice (some ⟨g, 0, none⟩) k cap) (hown : w.ownsRow base 49 59 (.slice (some ⟨g, 0, none⟩) k cap) k xs) (B : Nat) (hx : a.eval x = .slice (some ⟨B, 0, none⟩) 1 1) (r : Rep) (v : Value) (hr : w.rangeAt B 0 (repCells r v)) (hv : v.oneCell' = true) (hroom : k + 1 ≤ cap)
    (h : ∀ w', Hid (w'.ownsRow base 49 59 (.slice (some ⟨g, 0, none⟩) (k + 1) cap) (k + 1) (xs ++ repCells r v)) → Hid (w.grownBy w' (some g)) → wpList Tryf.prog ops Q rest (a.put op.dst (.slice (some ⟨g, 0, none⟩) (k + 1) cap)) w') : wpList Tryf.prog ops Q (op :: rest) a w := by
  obtain ⟨i, hi, hzz⟩ := Option.map_eq_some_iff.1 Tryf.infoz49
  simp only [Prod.mk.injEq] at hzz
  obtain ⟨_, hsz, _⟩ := hzz
  refine wpList_append_own_spare w hg s x 22 ho base 49 i 59 Tryf.underlying22 hi hsz g k cap xs hs hown ⟨B, 0, none⟩ 1 1 (repCells r v) hx (by rw [repCells_len]) (fun j u hj => ?_) (repCells_one r v hv) hroom h
  have := hr j u hj
  rw [← this]
  by_cases hj0 : j = 0
  · subst hj0; simp [Addr.add]
  · simp [Addr.add, hj0]

theorem grown_below {w w' : World} {g B : Nat} (h : w.grownBy w' (some g)) (hB : B ≤ g) (hw : B ≤ w.heap.size) : Below B w w' :=
  ⟨h.os, h.tape, h.output, h.size, fun k hk => h.block k (by omega) (fun e => by cases e; omega)⟩

theorem make_cap (n : Nat) (hn : n ≤ 1048576) : ∃ z : Array Value, z.size = n * 59 ∧ ∀ w, (Instr.makeSlice 22 (.int .i64 0) (.int .i64 (n : Int))).run Tryf.prog w = .ok (.slice (some ⟨w.heap.size, 0, none⟩) 0 n) (w.alloc (.cells z 49)) := by
  obtain ⟨i, hi, hzz⟩ := Option.map_eq_some_iff.1 Tryf.infoz49
  simp only [Prod.mk.injEq] at hzz
  obtain ⟨hz, hs, hb⟩ := hzz
  obtain ⟨z, hz⟩ := Option.isSome_iff_exists.1 hz
  refine ⟨madeCells z.cells (n * 59), size_madeCells _ _, fun w => ?_⟩
  have hr := run_make (P := Tryf.prog) w 22 49 i z Tryf.underlying22 hi hz .i64 .i64 0 n (by omega) (by omega) (by rw [hb]; omega) (by omega)
  rw [hs] at hr
  simpa using hr

/-! ### The cells of a row of replies, side by side -/
def flat (E : Nat → Rep) (V : Nat → Value) : Nat → List Value
  | 0 => []
  | k + 1 => flat E V k ++ repCells (E k) (V k)
theorem flat_len (E : Nat → Rep) (V : Nat → Value) : ∀ k, (flat E V k).length = k * 59
  | 0 => by simp [flat]
  | k + 1 => by rw [flat, List.length_append, flat_len E V k, repCells_len]; omega
theorem flat_get (E : Nat → Rep) (V : Nat → Value) : ∀ (k j i : Nat), j < k → i < 59 → (flat E V k)[j * 59 + i]? = (repCells (E j) (V j))[i]?
  | 0, _, _, h, _ => by omega
  | k + 1, j, i, h, hi => by
    rw [flat]
    by_cases e : j = k
    · subst e
      rw [List.getElem?_append_right (by rw [flat_len]; omega), flat_len]
      congr 1
      omega
    · have h2 : j < k := by omega
      have hm := Nat.mul_le_mul_right 59 (show j + 1 ≤ k by omega)
      rw [List.getElem?_append_left (by rw [flat_len]; omega)]
      exact flat_get E V k j i h2 hi

theorem flat_row {w : World} {base g k cap : Nat} {E : Nat → Rep} {V : Nat → Value} (h : w.ownsRow base 49 59 (.slice (some ⟨g, 0, none⟩) k cap) k (flat E V k)) (hv : ∀ j, j < k → ValIn w (V j) (E j).val) : RowIn w (some ⟨g, 0, none⟩) g 0 k E := by
  refine ⟨fun _ => rfl, fun j hj => ⟨V j, fun i u hi => ?_, hv j hj⟩⟩
  have hi59 : i < 59 := by have := (List.getElem?_eq_some_iff.1 hi).1; rw [repCells_len] at this; exact this
  have := h.cells rfl (j * 59 + i) u (by rw [flat_get E V k j i hj hi59]; exact hi)
  rw [← this]
  by_cases hz : j * 59 + i = 0
  · simp [Addr.add, hz]
  · rw [Addr.add, if_neg hz]
    simp [Nat.add_assoc]

def insV (V : Nat → Value) (vx : Value) (q : Nat) (i : Nat) : Value := if i < q then V i else if i = q then vx else V (i - 1)

section
variable {R : Nat → Rep} {x : Rep} {V : Nat → Value} {vx : Value} {q : Nat}
theorem insV_lt {i : Nat} (h : i < q) : insV V vx q i = V i := by simp [insV, h]
theorem insV_at : insV V vx q q = vx := by simp [insV]
theorem insV_gt {i : Nat} (h : q < i) : insV V vx q i = V (i - 1) := by unfold insV; rw [if_neg (by omega), if_neg (by omega)]

theorem flat_lt {k : Nat} (h : k < q) : flat (ins R x q) (insV V vx q) k ++ repCells (R k) (V k) = flat (ins R x q) (insV V vx q) (k + 1) := by rw [flat, ins_lt h, insV_lt h]
theorem flat_at : flat (ins R x q) (insV V vx q) q ++ repCells x vx = flat (ins R x q) (insV V vx q) (q + 1) := by rw [flat, ins_at, insV_at]
theorem flat_gt {k : Nat} (h : q ≤ k) : flat (ins R x q) (insV V vx q) (k + 1) ++ repCells (R k) (V k) = flat (ins R x q) (insV V vx q) (k + 1 + 1) := by
  rw [flat.eq_2 _ _ (k + 1), ins_gt (show q < k + 1 by omega), insV_gt (show q < k + 1 by omega), Nat.add_sub_cancel]

theorem insVal {w : World} {n : Nat} (hV : ∀ j, j < n → ValIn w (V j) (R j).val) (hx : ValIn w vx x.val) (hq : q ≤ n) : ∀ j, j < n + 1 → ValIn w (insV V vx q j) (ins R x q j).val := fun j hj => by
  rcases Nat.lt_trichotomy j q with h | h | h
  · rw [insV_lt h, ins_lt h]; exact hV j (by omega)
  · subst h; rw [insV_at, ins_at]; exact hx
  · rw [insV_gt h, ins_gt h]; exact hV (j - 1) (by omega)

theorem insSmall {n : Nat} (h : InsSmall n R x) (hq : q ≤ n) : Small (n + 1) (ins R x q) := by
  refine ⟨by have := h.1; omega, fun j hj => ?_⟩
  rcases Nat.lt_trichotomy j q with g | g | g
  · rw [ins_lt g]; exact h.2.1 j (by omega)
  · subst g; rw [ins_at]; exact h.2.2
  · rw [ins_gt g]; exact h.2.1 (j - 1) (by omega)
end
end Go.Proofs.Qxb6615539aFmt
