import Derived.Test.Qxb6608984aLabels
import Derived.Test.Qxb6608984aPlain
import Derived.Lib.AppendStr
import Derived.Laws.IdiomStrings
import Derived.Laws.BytesArg
namespace Go.Proofs.Qxb6608984a
open Go.RowKit
set_option linter.unusedSimpArgs false

/-- Bytes as cells. -/
def bcells (l : List UInt8) : List Value := l.map fun b => Value.int .u8 b.toNat
theorem bcells_str (s : ByteArray) : Lib.strCells s = bcells (bts s) := rfl
theorem bcells_append (l m : List UInt8) : bcells (l ++ m) = bcells l ++ bcells m := by simp [bcells]
theorem bcells_len (l : List UInt8) : (bcells l).length = l.length := by simp [bcells]

/-- The call's own bytes so far. -/
structure OwnB (w : World) (v : Value) (l : List UInt8) (wr : World) : Prop where
  own : wr.ownsRow w.heap.size 5 1 v l.length (bcells l)
  bel : Below w.heap.size w wr

theorem info5 : (Try.prog.info? 5).map (fun i => (i.zero, i.size, i.bytes)) = some (some (.int .u8 0), 1, 1) := by kernel_rfl

theorem grown_below {w0 w w' : World} {v : Value} {n : Nat} {xs : List Value} (h : w.grownBy w' v.ownBlock) (hown : w.ownsRow w0.heap.size 5 1 v n xs) (hb : Below w0.heap.size w0 w) : Below w0.heap.size w0 w' :=
  hb.trans ⟨h.os, h.tape, h.output, h.size, fun k hk => h.block k (Nat.lt_of_lt_of_le hk hb.size) (fun e => by have := (hown.lt k e.symm).1; omega)⟩

/-- .. and the label at hand, in block B. -/
structure StB (w : World) (v : Value) (l : List UInt8) (B : Nat) (s0 s1 : ByteArray) (wr : World) : Prop where
  own : OwnB w v l wr
  box : wr.heap[B]? = some (.cells #[.string s0, .string s1] 37 (0, 0))
theorem StB.alloc {w wr : World} {v : Value} {l : List UInt8} {B : Nat} {s0 s1 : ByteArray} (h : StB w v l B s0 s1 wr) (o : Obj) : StB w v l B s0 s1 (wr.alloc o) := by
  refine ⟨⟨h.own.own.alloc o, h.own.bel.alloc h.own.bel.size o⟩, ?_⟩
  have hlt : B < wr.heap.size := by
    rcases Nat.lt_or_ge B wr.heap.size with h1 | h1
    · exact h1
    · have := h.box; rw [Array.getElem?_eq_none h1] at this; cases this
  rw [← h.box]
  exact heap_alloc_old wr o hlt
theorem StB.c1 {w wr : World} {v : Value} {l : List UInt8} {B : Nat} {s0 s1 : ByteArray} (h : StB w v l B s0 s1 wr) : wr.cell? ⟨B, 1, none⟩ = some (.string s1) := by
  rw [cell_of_row _ _ 1 _ 37 (0, 0) h.box]; rfl
theorem StB.grown {w wr w' : World} {v v' : Value} {l l' : List UInt8} {B : Nat} {s0 s1 : ByteArray} (h : StB w v l B s0 s1 wr) (hg : wr.grownBy w' v.ownBlock) (ho : w'.ownsRow w.heap.size 5 1 v' l'.length (bcells l')) : StB w v' l' B s0 s1 w' := by
  refine ⟨⟨ho, grown_below hg h.own.own h.own.bel⟩, ?_⟩
  have hlt : B < wr.heap.size := by
    rcases Nat.lt_or_ge B wr.heap.size with h1 | h1
    · exact h1
    · have := h.box; rw [Array.getElem?_eq_none h1] at this; cases this
  rw [← h.box]
  refine hg.block B hlt (fun e => ?_)
  rcases h.own.own.2 with ⟨hv, _⟩ | ⟨g, cap, cur, hv, _, hgh, _⟩
  · rw [hv] at e; cases e
  · rw [hv] at e
    have e' : B = g := Option.some.inj e
    rw [← e', h.box] at hgh
    cases hgh

section
variable {ops : Array Oper} {rest : List Oper} {op : Oper} {a : Act} {w wr : World} {Q : Exit → Act → World → Prop}
theorem wpList_appStr (hg : op.guard = none) (s x : Operand) (ho : op.op = .call { callee := .builtin .append, args := #[s, x], argTypes := #[43, 9] }) (v : Value) (l : List UInt8) (hs : a.eval s = v) {B0 : Nat} {s0 s1 : ByteArray} (h : StB w v l B0 s0 s1 wr) (t : ByteArray) (hx : a.eval x = .string t) (hl : l.length + t.size ≤ 9000000)
    (hn : ∀ v' w', Hid (StB w v' (l ++ bts t) B0 s0 s1 w') → wpList Try.prog ops Q rest (a.put op.dst v') w') : wpList Try.prog ops Q (op :: rest) a wr := by
  obtain ⟨i, hi, hzz⟩ := Option.map_eq_some_iff.1 info5
  simp only [Prod.mk.injEq] at hzz
  obtain ⟨hz, hsz, hby⟩ := hzz
  refine Lib.wpList_append_own_string wr hg s x 43 9 ho w.heap.size 5 i Try.underlying43 Try.underlying9 hi hz hsz hby v l.length (bcells l) hs h.own.own t hx (by have hmax : maxLen = 9223372036854775807 := rfl; omega) (by omega) h.own.bel.size ?_
  intro v' w' h1 h2 _
  refine hn v' w' (h.grown h2 ?_)
  rw [bcells_append, List.length_append, bts_len, ← bcells_str]
  exact h1
theorem wpList_appFF (hg : op.guard = none) (s x : Operand) (ho : op.op = .call { callee := .builtin .append, args := #[s, x], argTypes := #[43, 43] }) (v : Value) (l : List UInt8) (hs : a.eval s = v) {B0 : Nat} {s0 s1 : ByteArray} (h : StB w v l B0 s0 s1 wr) (B : Nat) (hx : a.eval x = .slice (some ⟨B, 0, none⟩) 1 1) (hc : wr.cell? ⟨B, 0, none⟩ = some (.int .u8 255)) (hl : l.length + 1 ≤ 9000000)
    (hn : ∀ v' w', Hid (StB w v' (l ++ [255]) B0 s0 s1 w') → wpList Try.prog ops Q rest (a.put op.dst v') w') : wpList Try.prog ops Q (op :: rest) a wr := by
  obtain ⟨i, hi, hzz⟩ := Option.map_eq_some_iff.1 info5
  simp only [Prod.mk.injEq] at hzz
  obtain ⟨hz, hsz, hby⟩ := hzz
  refine wpList_append_own wr hg s x 43 ho w.heap.size 5 i (.int .u8 0) 1 1 Try.underlying43 hi hz hsz hby rfl (by omega) v l.length (bcells l) hs h.own.own ⟨B, 0, none⟩ 1 1 [.int .u8 255] hx rfl (fun j u hj => ?_) (fun u hu => by obtain rfl := List.mem_singleton.1 hu; rfl) (by have hmax : maxLen = 9223372036854775807 := rfl; omega) (by omega) h.own.bel.size ?_
  · have : j = 0 := by
      have := (List.getElem?_eq_some_iff.1 hj).1
      simp at this; exact this
    subst this
    simp at hj
    subst hj
    simpa [Addr.add] using hc
  intro v' w' h1 h2 _
  refine hn v' w' (h.grown h2 ?_)
  rw [bcells_append, List.length_append]
  exact h1
end
theorem cell_new (w : World) (v : Value) (t : TypeId) : (w.alloc (.cells #[v] t)).cell? ⟨w.heap.size, 0, none⟩ = some v := by
  rw [cell_of_row _ _ 0 _ t (0, 0) (heap_alloc_last w _)]; rfl

theorem OwnB.alloc {w wr : World} {v : Value} {l : List UInt8} (h : OwnB w v l wr) (o : Obj) : OwnB w v l (wr.alloc o) := ⟨h.own.alloc o, h.bel.alloc h.bel.size o⟩

/-! ### 22: appendSeriesKey -/
def AppPost (l : List UInt8) (w : World) (e : Ending) (w' : World) : Prop := ∃ v, e = .returned v ∧ OwnB w v l w'

set_option maxHeartbeats 4000000 in
theorem app_any (a : Option Addr) (b off n c : Nat) (N V : Nat → ByteArray) (w : World) (hn : n ≤ 65536) (h : PairsIn w a b off n N V) (ht : tot N V n ≤ 1048576) :
    Calls Try.prog 22 #[.slice none 0 0, .slice a n c] w (AppPost (keyOf N V n) w) := by
  have H : Hid _ := h
  have HT : Hid _ := ht
  clear h ht
  go_enter Try.func22, Try.ntmps22
  go_wp2
  go_loopw [0, 9] (fun v i wr => ∃ (k : Nat), k ≤ n ∧ i = .int .i64 k ∧ OwnB w v (keyOf N V k) wr) (fun _ i _ => n - (intOf i).toNat)
  case atStart => exact ⟨0, Nat.zero_le _, rfl, ⟨World.ownsRow_nil w w.heap.size 5 1, Below.refl _ _⟩⟩
  case round =>
    obtain ⟨k, hk, rfl, hO⟩ := hrel
    have HO : Hid _ := hO
    clear hO
    by_cases hlt : k < n
    · obtain rfl := H.out.at_ (by omega)
      have P := Below.pairs H.out HO.out.bel
      have c0 := P.name k hlt
      have c1 := P.val k hlt
      have hk0 : (0 : Int) ≤ (k : Int) := by omega
      have hk2 : (k : Int) < (n : Int) := by omega
      have HL : Hid ((keyOf N V k).length + (N k).size + (V k).size + 32 ≤ 1048576) := by
        have h1 := tot_mono N V (k + 1) n (by omega)
        have h2 := HT.out
        have h3 := klen_tot N V k
        rw [Hid, keyOf_len]
        simp only [tot] at h1
        omega
      clear P
      have S0 : Hid (StB w _ (keyOf N V k) wr.heap.size (N k) (V k) (wr.alloc (.cells #[.string (N k), .string (V k)] 37))) := ⟨HO.out.alloc _, heap_alloc_last wr _⟩
      go_wp2_with (first | (refine wpList_appStr rfl _ _ rfl _ (keyOf N V k) rfl S0.out (N k) rfl (by have := HL.out; omega) ?_; intro v1 w1 S1; clear S0) | (refine wpList_appFF rfl _ _ rfl _ _ rfl (S1.out.alloc _) w1.heap.size rfl (cell_new _ _ _) (by have := HL.out; rw [List.length_append, bts_len]; omega) ?_; intro v2 w2 S2; have l1 := S2.out.c1; clear S1) | (refine wpList_appStr rfl _ _ rfl _ _ rfl S2.out (V k) rfl (by have := HL.out; rw [List.length_append, List.length_append, bts_len]; simp; omega) ?_; intro v3 w3 S3; clear S2 l1) | (refine wpList_appFF rfl _ _ rfl _ _ rfl (S3.out.alloc _) w3.heap.size rfl (cell_new _ _ _) (by have := HL.out; simp only [List.length_append, bts_len]; simp; omega) ?_; intro v4 w4 S4; clear S3))
      go_roundw
      case rel => exact ⟨k + 1, by omega, by go_num, by rw [keyOf_succ]; exact S4.out.own⟩
      case measure => simp [intOf]; omega
    · go_wp2
      go_ret
      obtain rfl : k = n := by omega
      exact ⟨_, rfl, HO.out⟩

/-! ### 19, 10: seriesKey, ZZseriesKey -/
def StrPost (l : List UInt8) (w : World) (e : Ending) (w' : World) : Prop := e = .returned (.string ⟨l.toArray⟩) ∧ Below w.heap.size w w'

theorem conv_own {w wr : World} {v : Value} {l : List UInt8} (h : OwnB w v l wr) : (convert 43 9 v).run Try.prog wr = .ok (.string ⟨l.toArray⟩) wr := by
  rcases h.own.2 with ⟨rfl, h0⟩ | ⟨g, cap, cur, rfl, _, hg, _, _, _, hx⟩
  · have : l = [] := List.eq_nil_of_length_eq_zero h0
    subst this
    exact run_convert_bytes_nil wr 43 5 Try.underlying43 Try.underlying5 0 0 9 Try.underlying9
  · refine run_convert_bytes_back wr 43 9 5 ⟨g, 0, none⟩ cap l Try.underlying43 Try.underlying5 Try.underlying9 (fun j hj => ?_)
    have := h.own.cells rfl j (.int .u8 (l[j].toNat : Int)) (by simp [bcells, hj])
    exact this

theorem series_any (a : Option Addr) (b off n c : Nat) (N V : Nat → ByteArray) (w : World) (hn : n ≤ 65536) (h : PairsIn w a b off n N V) (ht : tot N V n ≤ 1048576) :
    Calls Try.prog 19 #[.slice a n c] w (StrPost (keyOf N V n) w) := by
  go_enter Try.func19, Try.ntmps19
  go_wp2_with (go_at_call 22; refine (app_any a b off n c N V w hn h ht).mono ?_)
  rintro e w1 ⟨v, rfl, hO⟩
  have hc := conv_own hO
  have HO : Hid _ := hO
  clear hO
  go_wp2_with fail
  go_ret
  exact ⟨rfl, HO.out.bel⟩

theorem key_any (a : Option Addr) (b off n c : Nat) (N V : Nat → ByteArray) (w : World) (hn : n ≤ 65536) (h : PairsIn w a b off n N V) (ht : tot N V n ≤ 1048576) :
    Calls Try.prog 10 #[.slice a n c] w (StrPost (keyOf N V n) w) := by
  go_enter Try.func10, Try.ntmps10
  go_wp2_with (go_at_call 19; refine (series_any a b off n c N V w hn h ht).mono ?_)
  rintro e w1 ⟨rfl, hb⟩
  go_wp2_with fail
  go_ret
  exact ⟨rfl, hb⟩

/-! ### 11: zzKeyLen -/
def IntPost (x : Int) (w : World) (e : Ending) (w' : World) : Prop := e = .returned (.int .i64 x) ∧ Below w.heap.size w w'
set_option maxHeartbeats 2000000 in
theorem keyLen_any (a : Option Addr) (b off n c : Nat) (N V : Nat → ByteArray) (w : World) (hn : n ≤ 65536) (h : PairsIn w a b off n N V) (ht : tot N V n ≤ 1048576) :
    Calls Try.prog 11 #[.slice a n c] w (IntPost (klen N V n : Nat) w) := by
  have H : Hid _ := h
  have HT : Hid _ := ht
  clear h ht
  go_enter Try.func11, Try.ntmps11
  go_wp2
  go_loopw [3, 4] (fun t i wr => ∃ (k : Nat), k ≤ n ∧ i = .int .i64 k ∧ t = .int .i64 (klen N V k : Nat) ∧ Below w.heap.size w wr) (fun _ i _ => n - (intOf i).toNat)
  case atStart => exact ⟨0, Nat.zero_le _, rfl, rfl, Below.refl _ _⟩
  case round =>
    obtain ⟨k, hk, rfl, rfl, hbel⟩ := hrel
    by_cases hlt : k < n
    · obtain rfl := H.out.at_ (by omega)
      have P := Below.pairs H.out hbel
      have c0 := P.name k hlt
      have c1 := P.val k hlt
      have hk0 : (0 : Int) ≤ (k : Int) := by omega
      have hk2 : (k : Int) < (n : Int) := by omega
      have h1 := tot_mono N V (k + 1) n (by omega)
      have h2 := HT.out
      have h3 := klen_tot N V k
      have HK : Hid (klen N V (k + 1) = klen N V k + (N k).size + (V k).size + 2) := rfl
      simp only [tot] at h1
      have b1 : klen N V k ≤ 1048576 := by omega
      have b2 : (N k).size ≤ 1048576 := by omega
      have b3 : (V k).size ≤ 1048576 := by omega
      clear P h1 h2 h3
      generalize klen N V k = T at *
      go_wp2
      go_quiet (fail)
      go_wp2
      go_roundw
      case rel => exact ⟨k + 1, by omega, by go_num, by rw [HK.out]; go_num, below_drewN hbel _⟩
      case measure => simp [intOf]; omega
    · go_wp2
      go_ret
      obtain rfl : k = n := by omega
      exact ⟨rfl, hbel⟩

/-! ### 20, 12: zzHasFF, zzAnyFF -/
def YesPost (p : Prop) (w : World) (e : Ending) (w' : World) : Prop := w' = w ∧ ∃ r : Bool, e = .returned (.bool r) ∧ (r = false ↔ p)
theorem bts_mem (s : ByteArray) (k : Nat) (h : k < s.size) : s[k] ∈ bts s := by
  have : s[k] = s.data[k] := rfl
  rw [this]
  exact Array.mem_toList_iff.2 (Array.getElem_mem _)
theorem bts_get (s : ByteArray) (b : UInt8) (h : b ∈ bts s) : ∃ j, ∃ hj : j < s.size, s[j] = b := by
  obtain ⟨j, hj, e⟩ := List.getElem_of_mem h
  exact ⟨j, by rw [bts_len] at hj; exact hj, by rw [← e]; simp [bts]; rfl⟩
theorem hasFF_any (s : ByteArray) (w : World) (hs : s.size ≤ 1048576) : Calls Try.prog 20 #[.string s] w (YesPost (NoFF (bts s)) w) := by
  go_enter Try.func20, Try.ntmps20
  go_wp2
  go_loop [3] (fun i => ∃ (k : Nat), k ≤ s.size ∧ i = .int .i64 k ∧ ∀ j (hj : j < s.size), j < k → s[j] ≠ 255) (fun i => s.size - (intOf i).toNat)
  case atStart => exact ⟨0, Nat.zero_le _, rfl, fun j hj h => by omega⟩
  case round =>
    obtain ⟨k, hk, rfl, hB⟩ := hrel
    have HB : Hid _ := hB
    clear hB
    by_cases hlt : k < s.size
    · by_cases hq : ((s[k].toNat : Nat) : Int) = 255
      · have HQ : Hid (((s[k].toNat : Nat) : Int) = 255) := hq
        go_wp2
        go_ret
        refine ⟨rfl, true, rfl, ⟨fun h => (by cases h), fun h => ?_⟩⟩
        exact absurd (UInt8.toNat_inj.1 (show s[k].toNat = (255 : UInt8).toNat by have := HQ.out; show s[k].toNat = 255; omega)) (h _ (bts_mem s k hlt))
      · have HQ : Hid (¬ ((s[k].toNat : Nat) : Int) = 255) := hq
        go_wp2
        go_round
        case rel =>
          refine ⟨k + 1, by omega, by go_num, fun j hj h => ?_⟩
          by_cases e : j = k
          · subst e
            exact fun q => HQ.out (by rw [q]; rfl)
          · exact HB.out j hj (by omega)
        case measure => simp [intOf]; omega
    · go_wp2
      go_ret
      refine ⟨rfl, false, rfl, ⟨fun _ => ?_, fun _ => rfl⟩⟩
      intro b hb
      obtain ⟨j, hj, rfl⟩ := bts_get s b hb
      exact HB.out j hj (by omega)

/-- Clean so far. -/
theorem clean_succ {k : Nat} {N V : Nat → ByteArray} (h : Clean k N V) (h0 : NoFF (bts (N k))) (h1 : NoFF (bts (V k))) : Clean (k + 1) N V := fun j hj => by
  by_cases e : j = k
  · subst e; exact ⟨h0, h1⟩
  · exact h j (by omega)

set_option maxHeartbeats 2000000 in
theorem anyFF_any (a : Option Addr) (b off n c : Nat) (N V : Nat → ByteArray) (w : World) (hn : n ≤ 65536) (h : PairsIn w a b off n N V) (ht : tot N V n ≤ 1048576) :
    Calls Try.prog 12 #[.slice a n c] w (YesPost (Clean n N V) w) := by
  have H : Hid _ := h
  have HT : Hid _ := ht
  clear h ht
  go_enter Try.func12, Try.ntmps12
  go_wp2
  go_loop [3] (fun i => ∃ (k : Nat), k ≤ n ∧ i = .int .i64 k ∧ Clean k N V) (fun i => n - (intOf i).toNat)
  case atStart => exact ⟨0, Nat.zero_le _, rfl, fun j hj => by omega⟩
  case round =>
    obtain ⟨k, hk, rfl, hC⟩ := hrel
    have HC : Hid _ := hC
    clear hC
    by_cases hlt : k < n
    · obtain rfl := H.out.at_ (by omega)
      have c0 := H.out.name k hlt
      have c1 := H.out.val k hlt
      have h1 := tot_mono N V (k + 1) n (by omega)
      have h2 := HT.out
      simp only [tot] at h1
      have b2 : (N k).size ≤ 1048576 := by omega
      have b3 : (V k).size ≤ 1048576 := by omega
      clear h1 h2
      go_wp2_with fail
      go_at_call 20
      refine (hasFF_any (N k) w b2).mono ?_
      rintro e w1 ⟨hw, r, rfl, hr⟩
      rw [hw]
      clear hw w1
      cases r with
      | true =>
        have HR : Hid (¬ NoFF (bts (N k))) := fun q => (by have := hr.2 q; cases this)
        clear hr
        go_wp2_with fail
        go_ret
        exact ⟨rfl, true, rfl, ⟨fun h => (by cases h), fun h => absurd (h k hlt).1 HR.out⟩⟩
      | false =>
        have HR : Hid (NoFF (bts (N k))) := hr.1 rfl
        clear hr
        go_wp2_with fail
        go_at_call 20
        refine (hasFF_any (V k) w b3).mono ?_
        rintro e w1 ⟨hw, r, rfl, hr⟩
        rw [hw]
        clear hw w1
        cases r with
        | true =>
          have HR2 : Hid (¬ NoFF (bts (V k))) := fun q => (by have := hr.2 q; cases this)
          clear hr
          go_wp2_with fail
          go_ret
          exact ⟨rfl, true, rfl, ⟨fun h => (by cases h), fun h => absurd (h k hlt).2 HR2.out⟩⟩
        | false =>
          have HR2 : Hid (NoFF (bts (V k))) := hr.1 rfl
          clear hr
          go_wp2_with fail
          go_round
          case rel => exact ⟨k + 1, by omega, by go_num, clean_succ HC.out HR.out HR2.out⟩
          case measure => simp [intOf]; omega
    · go_wp2
      go_ret
      obtain rfl : k = n := by omega
      exact ⟨rfl, false, rfl, ⟨fun _ => HC.out, fun _ => rfl⟩⟩
end Go.Proofs.Qxb6608984a
