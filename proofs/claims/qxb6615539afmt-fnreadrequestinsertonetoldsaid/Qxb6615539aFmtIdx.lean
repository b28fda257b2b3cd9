import Derived.Test.Qxb6615539aFmtLess
namespace Go.Proofs.Qxb6615539aFmt
open Go.RowKit
open Extern.Stop (cell)
set_option linter.unusedSimpArgs false

theorem less_bytes : ∀ (xs ys : List UInt8), xs.length = ys.length → (bytesLess xs ys = true ↔ 0 < Lib.compareBytes ys xs)
  | [], [], _ => by simp [bytesLess, Lib.compareBytes]
  | [], _ :: _, h => by simp at h
  | _ :: _, [], h => by simp at h
  | a :: xs, b :: ys, h => by
    have ih := less_bytes xs ys (by simpa using h)
    unfold bytesLess Lib.compareBytes
    by_cases e : a = b
    · subst e
      have hlt : ¬ a < a := UInt8.lt_irrefl a
      rw [if_pos rfl, if_neg hlt, if_neg hlt]
      exact ih
    · rw [if_neg e]
      by_cases h1 : b < a
      · have h2 : ¬ a < b := UInt8.lt_asymm h1
        simp [h1, h2]
      · have h2 : a < b := UInt8.lt_of_le_of_ne (UInt8.not_lt.1 h1) e
        simp [h1, h2]

def repLess (a b : Rep) : Bool := tagLess a.tn a.tw b.tn b.tw

theorem repLess_iff (a b : Rep) : repLess a b = true ↔ 0 < repCmp b a := by
  unfold repLess repCmp tagLess tagCmp cmpInt
  by_cases e : a.tn = b.tn
  · rw [if_pos e]
    have h := less_bytes a.tw.l b.tw.l (by rw [a.tw.len, b.tw.len])
    simp [e, h]
  · rw [if_neg e]
    by_cases h1 : b.tn < a.tn
    · have h2 : ¬ a.tn < b.tn := by omega
      simp [h1, h2]
    · have h2 : a.tn < b.tn := by omega
      simp [h1, h2]

theorem hi_less (R : Nat → Rep) (k : Nat) (hk : 0 < k) : hi R k = if repLess (R (hi R (k - 1))) (R k) = true then k else hi R (k - 1) := by
  rw [hi_succ R k hk]
  by_cases h : 0 < repCmp (R k) (R (hi R (k - 1)))
  · rw [if_pos h, if_pos ((repLess_iff _ _).2 h)]
  · rw [if_neg h, if_neg (fun q => h ((repLess_iff _ _).1 q))]

def IntPost (x : Int) (w : World) (e : Ending) (w' : World) : Prop := e = .returned (.int .i64 x) ∧ Below w.heap.size w w'

set_option maxHeartbeats 2000000 in
theorem hiIdx_any (a : Option Addr) (b off n c : Nat) (R : Nat → Rep) (w : World) (h : RowIn w a b off n R) (hn : 0 < n) (hn2 : n ≤ 1048576) :
    Calls Tryf.prog 16 #[.slice a n c] w (IntPost (hi R (n - 1)) w) := by
  obtain rfl := h.at_ hn
  have H : Hid _ := h
  clear h
  go_enter Tryf.func16, Tryf.ntmps16
  go_wp2_with fail
  go_loopw [3, 4] (fun j i wr => ∃ k : Nat, 1 ≤ k ∧ k ≤ n ∧ i = .int .i64 k ∧ j = .int .i64 (hi R (k - 1)) ∧ Below w.heap.size w wr) (fun _ i _ => n - (intOf i).toNat)
  case atStart => exact ⟨1, Nat.le_refl _, hn, rfl, rfl, Below.refl _ _⟩
  case round =>
    obtain ⟨k, hk1, hk, rfl, rfl, hbel⟩ := hrel
    by_cases hlt : k < n
    · have hj : hi R (k - 1) < n := by have := hi_le R (k - 1); omega
      obtain ⟨vk, hrk, _⟩ := Below.rep (H.out.rep k hlt) hbel
      obtain ⟨vj, hrj, _⟩ := Below.rep (H.out.rep _ hj) hbel
      have Fk := fieldsAt hrk
      have Fj := fieldsAt hrj
      obtain ⟨j, hjj⟩ : ∃ j, j = hi R (k - 1) := ⟨_, rfl⟩
      rw [← hjj] at hj Fj
      have E1 : ∀ w', Below wr.heap.size wr w' → w'.cell? ⟨b, off + j * 59 + 3, none⟩ = some (.int .u64 (R j).tn) := fun w' hw => cell_later hw Fj.f3
      have E2 : ∀ w', Below wr.heap.size wr w' → w'.rangeAt b (off + j * 59 + 4) (R j).tw.cells := fun w' hw => Below.range Fj.f4 hw
      have E3 : ∀ w', Below wr.heap.size wr w' → w'.cell? ⟨b, off + k * 59 + 3, none⟩ = some (.int .u64 (R k).tn) := fun w' hw => cell_later hw Fk.f3
      have E4 : ∀ w', Below wr.heap.size wr w' → w'.rangeAt b (off + k * 59 + 4) (R k).tw.cells := fun w' hw => Below.range Fk.f4 hw
      have hk0 : (0 : Int) ≤ (k : Int) := by omega
      have hk2 : (k : Int) < (n : Int) := by omega
      have hj0 : (0 : Int) ≤ (j : Int) := by omega
      have hj2 : (j : Int) < (n : Int) := by omega
      have i1 : (Tryf.prog.info? 36).map (·.size) = some (R j).tw.cells.length := by rw [Id16.cells_len]; exact info36
      have i2 : (Tryf.prog.info? 36).map (·.size) = some (R k).tw.cells.length := by rw [Id16.cells_len]; exact info36
      rw [← hjj]
      have HJ : Hid (j = hi R (k - 1)) := hjj
      clear hrk hrj Fk Fj hjj
      go_wp2_with fail
      refine wp_region_floatl (fun w' => Below wr.heap.size wr w') [(0, 20)] [20] (by kernel_rfl) (by kernel_rfl) (Below.refl _ _).drew ?_
      intro OPS hO
      simp only [List.map_cons, List.map_nil, List.getElem?_cons_succ, List.getElem?_cons_zero, List.cons.injEq, and_true] at hO
      have H20 : Hid _ := hO
      clear hO
      simp only [segs, List.drop_succ_cons, List.drop_zero, List.take_succ_cons, List.take_zero, List.cons_append, List.nil_append, List.append_nil]
      repeat (apply take_step rfl; (case h => (intro wx hx; first | exact exec_load_mid 36 _ rfl _ _ rfl _ _ (E2 wx hx) Tryf.underlying36 rfl i1 | exact exec_load_mid 36 _ rfl _ _ rfl _ _ (E4 wx hx) Tryf.underlying36 rfl i2 | (go_simp; try with_reducible rfl))); try simp only [Act.put, List.setIfInBounds_toArray, List.set_cons_zero, List.set_cons_succ])
      refine take_nil ?_
      refine rest_step H20.out ?_
      go_wp2_with (go_at_call 22; refine (less_any (R j).tn (R j).tw (R k).tn (R k).tw wr.drew).mono ?_)
      rintro e w1 ⟨rfl, hb1⟩
      have hbb : Below wr.heap.size wr w1 := (Below.refl _ _).drew.trans hb1
      have hbw : Below w.heap.size w w1 := hbel.trans (hbb.mono hbel.size)
      clear E1 E2 E3 E4
      by_cases hL : repLess (R j) (R k) = true
      · have hL' : tagLess (R j).tn (R j).tw (R k).tn (R k).tw = true := hL
        have HN : Hid (hi R (k + 1 - 1) = k) := by rw [Hid, Nat.add_sub_cancel, hi_less R k hk1, ← HJ.out, if_pos hL]
        go_wp2_with fail
        refine onlyN_mk ⟨hbb, rest_nil ?_⟩
        go_wp2_with fail
        go_roundw
        case rel => exact ⟨k + 1, by omega, by omega, by go_num, by rw [HN.out], hbw⟩
        case measure => simp [intOf]; omega
      · have hL' : tagLess (R j).tn (R j).tw (R k).tn (R k).tw = false := by
          have q : repLess (R j) (R k) = false := by simpa using hL
          exact q
        have HN : Hid (hi R (k + 1 - 1) = j) := by rw [Hid, Nat.add_sub_cancel, hi_less R k hk1, ← HJ.out, if_neg hL]
        go_wp2_with fail
        refine onlyN_mk ⟨hbb, rest_nil ?_⟩
        go_wp2_with fail
        go_roundw
        case rel => exact ⟨k + 1, by omega, by omega, by go_num, by rw [HN.out], hbw⟩
        case measure => simp [intOf]; omega
    · go_wp2_with fail
      go_ret
      have : k = n := by omega
      subst this
      exact ⟨rfl, hbel⟩
end Go.Proofs.Qxb6615539aFmt
