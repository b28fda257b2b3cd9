import Derived.Test.Qxb6608999aIds
namespace Go.Proofs.Qxb6608999a
open Go.RowKit
open Extern.Stop (cell)
set_option linter.unusedSimpArgs false

/-! ### 8: ZZnewRing -/
def RingPost (s : Value) (w : World) (e : Ending) (w' : World) : Prop := e = .returned (.pointer (some ⟨w.heap.size, 0, none⟩)) ∧ w'.cell? ⟨w.heap.size, 1, none⟩ = some s ∧ Below w.heap.size w w'
theorem ring_any (bits : Int) (a : Option Addr) (n c : Nat) (w : World) : Calls Try.prog 8 #[.int .i64 bits, .slice a n c] w (RingPost (.slice a n c) w) := by
  go_enter Try.func8, Try.ntmps8
  go_wp2
  go_ret
  refine ⟨rfl, ?_, (Below.refl _ _).alloc (Nat.le_refl _) _⟩
  rw [cell_of_row _ _ 1 _ 45 (0, 0) (heap_alloc_last w _)]
  rfl

/-! ### 10: Nodes -/
theorem nodes_any (p b n c : Nat) (R : Nat → Id20) (w : World) (hn : n ≤ 52428) (hp : w.cell? ⟨p, 1, none⟩ = some (.slice (some ⟨b, 0, none⟩) n c)) (h : RowIn w (some ⟨b, 0, none⟩) b 0 n R) :
    Calls Try.prog 10 #[.pointer (some ⟨p, 0, none⟩)] w (IdsPost n R w) := by
  have H : Hid _ := h
  clear h
  go_enter Try.func10, Try.ntmps10
  go_wp2_with (go_at_call 19; refine (clone_any b n c R w hn H.out).mono ?_)
  rintro e w1 ⟨g, c', rfl, h1, h2, h3, h4⟩
  have H1 : Hid _ := h1
  have H2 : Hid _ := h2
  clear h1 h2
  go_wp2_with fail
  go_ret
  exact ⟨g, c', rfl, H1.out, H2.out, h3, h4⟩

/-! ### 11: zzSameIDs -/
def TruePost (w : World) (e : Ending) (w' : World) : Prop := e = .returned (.bool true) ∧ Below w.heap.size w w'
set_option maxHeartbeats 4000000 in
theorem same_any (g n c : Nat) (a : Option Addr) (b off c2 : Nat) (R : Nat → Id20) (w : World) (hn : n ≤ 52428) (h1 : RowIn w (some ⟨g, 0, none⟩) g 0 n R) (h2 : RowIn w a b off n R) :
    Calls Try.prog 11 #[.slice (some ⟨g, 0, none⟩) n c, .slice a n c2] w (TruePost w) := by
  have H1 : Hid _ := h1
  have H2 : Hid _ := h2
  clear h1 h2
  go_enter Try.func11, Try.ntmps11
  go_wp2_with fail
  go_loopw [13] (fun i wr => ∃ k : Nat, k ≤ n ∧ i = .int .i64 k ∧ Below w.heap.size w wr) (fun i _ => n - (intOf i).toNat)
  case atStart => exact ⟨0, Nat.zero_le _, rfl, Below.refl _ _⟩
  case round =>
    obtain ⟨k, hk, rfl, hbel⟩ := hrel
    by_cases hlt : k < n
    · obtain rfl := H2.out.at_ (by omega)
      have E1 : ∀ w', Below wr.heap.size wr w' → w'.rangeAt g (k * 20) (R k).cells := fun w' hw => by
        have := Below.range (Below.range (H1.out.row k hlt) hbel) hw
        rwa [Nat.zero_add] at this
      have E2 : ∀ w', Below wr.heap.size wr w' → w'.rangeAt b (off + k * 20) (R k).cells := fun w' hw => Below.range (Below.range (H2.out.row k hlt) hbel) hw
      have hk0 : (0 : Int) ≤ (k : Int) := by omega
      have hk2 : (k : Int) < (n : Int) := by omega
      have HLL : Hid ((!((R k).l == (R k).l)) = false) := by show (!((R k).l == (R k).l)) = false; simp
      go_wp2_with fail
      refine wp_region_script (fun w' => Below wr.heap.size wr w') [(true, 0), (true, 1), (true, 2), (true, 3), (true, 4), (true, 5), (true, 6), (true, 7), (true, 8)] [] (by kernel_rfl) (by kernel_rfl) (Below.refl _ _).drew ?_
      intro OPS hO
      clear hO
      simp only [scOps, List.getElem?_cons_succ, List.getElem?_cons_zero, Act.put, List.setIfInBounds_toArray, List.set_cons_zero, List.set_cons_succ]
      repeat (apply sc_take rfl; (case h => (intro wx hx; first | exact exec_load_mid 32 _ rfl _ _ rfl _ _ (E1 wx hx) Try.underlying32 rfl (id32 _) | exact exec_load_mid 31 _ rfl _ _ rfl _ _ (E2 wx hx) Try.underlying31 rfl (id31 _) | exact exec_neq31 _ _ _ rfl (R k) (R k) rfl rfl | (go_simp; try with_reducible rfl))); try simp only [Act.put, List.setIfInBounds_toArray, List.set_cons_zero, List.set_cons_succ])
      refine sc_nil ?_
      clear E1 E2
      rw [HLL.out]
      go_wp2_with fail
      go_roundw
      case rel => exact ⟨k + 1, by omega, by go_num, hbel.drew⟩
      case measure => simp [intOf]; omega
    · go_wp2_with fail
      go_ret
      exact ⟨rfl, hbel⟩

/-! ### The law -/
/-- What the loop over the first copy keeps. -/
structure Turned (g n : Nat) (w4 wr : World) : Prop where
  u8 : ∀ j, j < n → ∃ x : Int, wr.cell? ⟨g, j * 20, none⟩ = some (.int .u8 x)
  th : wr.there g 0 (n * 20)
  bel : Below w4.heap.size w4 wr

theorem turned_set {g n : Nat} {w4 wr : World} (h : Turned g n w4 wr) (hg : w4.heap.size ≤ g) (k : Nat) (hk : k < n) (z : Int) : Turned g n w4 (wr.setCell ⟨g, k * 20, none⟩ (.int .u8 z)) := by
  refine ⟨fun j hj => ?_, there_setCell h.th _ _, h.bel.setCell (p := ⟨g, k * 20, none⟩) hg _⟩
  by_cases e : j = k
  · subst e
    obtain ⟨x, hx⟩ := h.u8 j hj
    exact ⟨z, World.cell?_setCell_same _ _ _ hx⟩
  · obtain ⟨x, hx⟩ := h.u8 j hj
    exact ⟨x, by rw [World.cell?_setCell_other _ _ _ _ (fun q => by simp at q <;> omega)]; exact hx⟩
theorem Turned.drew {g n : Nat} {w4 wr : World} (h : Turned g n w4 wr) : Turned g n w4 wr.drew :=
  ⟨fun j hj => by obtain ⟨x, hx⟩ := h.u8 j hj; exact ⟨x, by rw [World.cell?_drew]; exact hx⟩, (World.there_drew _ _ _ _).2 h.th, h.bel.drew⟩

set_option maxHeartbeats 8000000 in
theorem law_any (bits : Int) (a : Option Addr) (b off n c : Nat) (R : Nat → Id20) (w : World) (hn : n ≤ 9223372036854775807) (h : RowIn w a b off n R) : Calls Try.prog 3 #[.int .i64 bits, .slice a n c] w (TruePost w) := by
  have H : Hid _ := h
  clear h
  go_enter Try.func3, Try.ntmps3
  go_wp2_with fail
  go_at_call 6
  refine (bytes6 a b off n c R bits w hn H.out).mono ?_
  rintro e w1 ⟨hb1, r, rfl⟩
  cases r with
  | false =>
    go_wp2_with fail
    go_ret
    exact ⟨rfl, hb1⟩
  | true =>
  by_cases h1 : (n : Int) > 52428
  · go_wp2_with fail
    go_ret
    exact ⟨rfl, hb1⟩
  by_cases h2 : bits < 1
  · go_wp2_with fail
    go_ret
    exact ⟨rfl, hb1⟩
  by_cases h3 : bits > 160
  · go_wp2_with fail
    go_ret
    exact ⟨rfl, hb1⟩
  have hn2 : n ≤ 52428 := by omega
  have hw160 : IntKind.i64.wrap (160 - bits) = 160 - bits := by rw [IntKind.wrap_i64]; omega
  have hbr : 0 ≤ 160 - bits ∧ 160 - bits ≤ 160 := by omega
  go_wp2_with fail
  go_at_call 7
  refine (prem_any a b off n c R (160 - bits) w1 hn2 hbr (Below.row H.out hb1)).mono ?_
  rintro e w2 ⟨hb12, r, rfl⟩
  have hb2 : Below w.heap.size w w2 := hb1.trans (hb12.mono hb1.size)
  clear hb12 hb1
  cases r with
  | false =>
    go_wp2_with fail
    go_ret
    exact ⟨rfl, hb2⟩
  | true =>
  go_wp2_with fail
  go_at_call 9
  refine (ids_any a b off n c R w2 hn2 (Below.row H.out hb2)).mono ?_
  rintro e w3 ⟨g3, c3, rfl, hr3, _, hb23, _⟩
  have R3 : Hid _ := hr3
  have hb3 : Below w.heap.size w w3 := hb2.trans (hb23.mono hb2.size)
  clear hr3 hb23 hb2
  go_wp2_with fail
  go_at_call 8
  refine (ring_any bits (some ⟨g3, 0, none⟩) n c3 w3).mono ?_
  rintro e w4 ⟨rfl, hc4, hb34⟩
  have C4 : Hid _ := hc4
  have R4 : Hid (RowIn w4 (some ⟨g3, 0, none⟩) g3 0 n R) := Below.row R3.out hb34
  have hb4 : Below w.heap.size w w4 := hb3.trans (hb34.mono hb3.size)
  clear hc4 R3 hb34 hb3
  generalize w3.heap.size = p at *
  go_wp2_with fail
  go_at_call 10
  refine (nodes_any p g3 n c3 R w4 hn2 C4.out R4.out).mono ?_
  rintro e w5 ⟨g, c5, rfl, hr5, ht5, hb45, hg5⟩
  have R5 : Hid _ := hr5
  have T5 : Hid _ := ht5
  have hb5 : Below w.heap.size w w5 := hb4.trans (hb45.mono hb4.size)
  clear hr5 ht5
  go_wp2_with fail
  go_at_call 11
  refine (same_any g n c5 a b off c R w5 hn2 R5.out (Below.row H.out hb5)).mono ?_
  rintro e w6 ⟨rfl, hb56⟩
  have hb46 : Below w4.heap.size w4 w6 := hb45.trans (hb56.mono hb45.size)
  have ST : Hid (Turned g n w4 w6) := by
    refine ⟨fun j hj => ?_, there_below T5.out hb56, hb46⟩
    have := Id20.at (Below.range (R5.out.row j hj) hb56) 0 (by omega)
    rw [Nat.zero_add, Nat.add_zero] at this
    exact ⟨_, this⟩
  clear hb56 hb46 hb45 R5 T5 hb5
  go_wp2_with fail
  go_loopw [39] (fun i wr => ∃ k : Nat, k ≤ n ∧ i = .int .i64 k ∧ Turned g n w4 wr) (fun i _ => n - (intOf i).toNat)
  case atStart => exact ⟨0, Nat.zero_le _, rfl, ST.out⟩
  case round =>
    obtain ⟨k, hk, rfl, hT⟩ := hrel
    have HT : Hid _ := hT
    clear hT ST
    by_cases hlt : k < n
    · obtain ⟨x, hx⟩ := HT.out.u8 k hlt
      have hf := (HT.out.th (k * 20) (by omega)).2
      rw [Nat.zero_add] at hf
      have hk0 : (0 : Int) ≤ (k : Int) := by omega
      have hk2 : (k : Int) < (n : Int) := by omega
      go_wp2_with fail
      go_region
      go_wp2
      go_roundw
      case rel => exact ⟨k + 1, by omega, by go_num, (turned_set HT.out hg5 k hlt _).drew⟩
      case measure => simp [intOf]; omega
    · obtain rfl : k = n := by omega
      have hb6 : Below w.heap.size w wr := hb4.trans (HT.out.bel.mono hb4.size)
      go_wp2_with fail
      go_at_call 10
      refine (nodes_any p g3 k c3 R wr hn2 (cell_later HT.out.bel C4.out) (Below.row R4.out HT.out.bel)).mono ?_
      rintro e w7 ⟨g7, c7, rfl, hr7, _, hb67, _⟩
      have R7 : Hid _ := hr7
      have hb7 : Below w.heap.size w w7 := hb6.trans (hb67.mono hb6.size)
      clear hr7
      go_wp2_with fail
      go_at_call 11
      refine (same_any g7 k c7 a b off c R w7 hn2 R7.out (Below.row H.out hb7)).mono ?_
      rintro e w8 ⟨rfl, hb78⟩
      go_wp2_with fail
      go_ret
      exact ⟨rfl, hb7.trans (hb78.mono hb7.size)⟩
end Go.Proofs.Qxb6608999a
