import Derived.Test.Qxb6615539aFmtBuild
import Derived.Stop.CallBack
import Derived.Stop.IfaceNil
import GoSem.ClaimData
namespace Go.Proofs.Qxb6615539aFmt
open Go.RowKit Go.Extern.Stop Go.Stop Go.Extern

/-! ### What fmt.errorf, function 42, wants of the program: closed facts -/
theorem call42 (args : Array Value) (w : World) : (callFunc 42 args).run Tryf.prog w = ((FmtStop.errorf #[9, 80] #[29] args).run Tryf.prog w).andThen fun v w' => .ok (.value v) w' :=
  run_callFunc_extern Tryf.func42 (by kernel_rfl) (by kernel_rfl) (by kernel_rfl) (by kernel_rfl) args w
theorem fguard (name : String) (w : World) : (FmtStop.guard name).run Tryf.prog w = .ok () w := by kernel_rfl
theorem fmt0 : FmtStop.printed? ⟨#[116, 104, 101, 32, 107, 101, 121, 32, 105, 115, 32, 37, 100, 32, 98, 121, 116, 101, 115, 44, 32, 109, 111, 114, 101, 32, 116, 104, 97, 110, 32, 116, 104, 101, 32, 108, 105, 109, 105, 116, 32, 111, 102, 32, 37, 100]⟩ 2 = some [(0, 100, false), (1, 100, false)] := by kernel_rfl
theorem fmt0r (w : World) : (FmtDoors.printed ⟨#[116, 104, 101, 32, 107, 101, 121, 32, 105, 115, 32, 37, 100, 32, 98, 121, 116, 101, 115, 44, 32, 109, 111, 114, 101, 32, 116, 104, 97, 110, 32, 116, 104, 101, 32, 108, 105, 109, 105, 116, 32, 111, 102, 32, 37, 100]⟩ 2).run Tryf.prog w = .ok [(0, 100, false), (1, 100, false)] w := by kernel_rfl
def shape3 : List UInt8 := [5, 3, 0, 0, 0, 0, 0, 0, 0, 105, 110, 116]
theorem op3 (name : String) (x : Int) (w : World) : (FmtStop.operand name false 100 false (.iface 3 (.int .i64 x))).run Tryf.prog w = .ok (shape3, Go.Extern.Stop.digits 8 (x % 2 ^ 64).toNat) w := by kernel_rfl
theorem op3w (name : String) (x : Int) (w : World) : (FmtStop.operand name true 100 false (.iface 3 (.int .i64 x))).run Tryf.prog w = .ok (shape3, Go.Extern.Stop.digits 8 (x % 2 ^ 64).toNat) w := by kernel_rfl
theorem strict3 (name : String) (x : Int) (w : World) : (FmtStop.strict name (.iface 3 (.int .i64 x))).run Tryf.prog w = .ok (shape3, Go.Extern.Stop.digits 8 (x % 2 ^ 64).toNat) w := by kernel_rfl
theorem ptr77 (w : World) : (FmtStop.ptrTo "errors.errorString").run Tryf.prog w = .ok 77 w := by kernel_rfl
theorem elem77 (w : World) : (elemOf 77).run Tryf.prog w = .ok 79 w := by kernel_rfl
theorem isError77 (w : World) : (FmtDoors.textMethod 77 "Error").run Tryf.prog w = .ok true w := by kernel_rfl

attribute [local go_sem] call42 fguard fmt0 fmt0r op3 op3w strict3 ptr77 elem77 isError77 built65

/-- It is an error, and what was there is there. -/
def ErrPost (w : World) (e : Ending) (w' : World) : Prop := ∃ a : Addr, e = .returned (.iface 77 (.pointer (some a))) ∧ Below w.heap.size w w'

theorem check_empty (w : World) : Calls Tryf.prog 29 #[.string ByteArray.empty] w (ErrPost w) := by
  go_enter Tryf.func29, Tryf.ntmps29
  go_wp2
  go_ret
  exact ⟨_, rfl, (Below.refl _ _).alloc (Nat.le_refl _) _⟩

theorem ne_empty {key : ByteArray} (h : key.size ≠ 0) : key.toList.isEmpty = false := by
  rw [ByteArray.toList_eq]
  cases hq : key.data.toList with
  | nil => exact absurd (show key.data.toList.length = 0 by rw [hq]; rfl) h
  | cons _ _ => rfl

theorem check_ok (key : ByteArray) (w : World) (h0 : key.size ≠ 0) (h1 : key.size ≤ 256) : Calls Tryf.prog 29 #[.string key] w fun e w' => e = .returned .nilIface ∧ w' = w := by
  have h2 := ne_empty h0
  have h3 : ((key.size : Int)) ≤ 256 := by omega
  go_enter Tryf.func29, Tryf.ntmps29
  go_wp2
  go_ret
  exact ⟨rfl, rfl⟩

theorem check_long (F : Interp) (key : ByteArray) (w : World) (hF : F.answers w.tape) (h1 : 256 < key.size) (h2 : key.size ≤ 9223372036854775807) : Calls Tryf.prog 29 #[.string key] w (ErrPost w) := by
  have hF' := answers_open hF
  have h2 := ne_empty (key := key) (by omega)
  have h3 : (256 : Int) < ((key.size : Int)) := by omega
  go_enter Tryf.func29, Tryf.ntmps29
  go_wp2
  go_ret
  exact ⟨_, rfl, (((Below.refl _ _).alloc (Nat.le_refl _) _).alloc (by simp) _).drew⟩

def KeyGood (key : ByteArray) : Prop := key.size ≠ 0 ∧ key.size ≤ 256

theorem check_bad (F : Interp) (key : ByteArray) (w : World) (hF : F.answers w.tape) (hk : ¬ KeyGood key) (h2 : key.size ≤ 9223372036854775807) : Calls Tryf.prog 29 #[.string key] w (ErrPost w) := by
  by_cases h0 : key.size = 0
  · have : key = ByteArray.empty := by
      obtain ⟨d⟩ := key
      have : d = #[] := Array.eq_empty_of_size_eq_zero h0
      subst this; rfl
    subst this
    exact check_empty w
  · exact check_long F key w hF (by unfold KeyGood at hk; omega) h2

/-! ### 11: NewRead -/
def NewBadPost (w : World) (e : Ending) (w' : World) : Prop := ∃ a : Addr, e = .returned (.tuple #[.pointer none, .iface 77 (.pointer (some a))]) ∧ Below w.heap.size w w'
theorem new_bad (F : Interp) (key : ByteArray) (mode : Int) (w : World) (hF : F.answers w.tape) (hk : ¬ KeyGood key) (h2 : key.size ≤ 9223372036854775807) : Calls Tryf.prog 11 #[.string key, .int .u8 mode] w (NewBadPost w) := by
  have HF : Hid (F.answers w.tape) := hF
  have HK : Hid (¬ KeyGood key) := hk
  clear hF hk
  go_enter Tryf.func11, Tryf.ntmps11
  go_wp2_with (go_at_call 29; refine (check_bad F key w HF.out HK.out h2).mono ?_; rintro e w1 ⟨a, rfl, hb⟩)
  go_ret2
  exact ⟨a, rfl, hb⟩

/-- A new read lies in the block that was made last. -/
def newWorld (key : ByteArray) (mode : Int) (w : World) : World := w.alloc (.cells (readCells key mode (msgCells zeroRep (.slice none 0 0)) false).toArray 65)
theorem new_ok (key : ByteArray) (mode : Int) (w : World) (hk : KeyGood key) : Calls Tryf.prog 11 #[.string key, .int .u8 mode] w fun e w' => e = .returned (.tuple #[.pointer (some ⟨w.heap.size, 0, none⟩), .nilIface]) ∧ w' = newWorld key mode w := by
  have HK : Hid (KeyGood key) := hk
  clear hk
  go_enter Tryf.func11, Tryf.ntmps11
  go_wp2_with (first | (go_at_call 29; refine (check_ok key w HK.out.1 HK.out.2).mono ?_; rintro e w1 ⟨rfl, hw⟩; rw [hw]; clear hw w1))
  go_ret2
  exact ⟨rfl, rfl⟩

/-! ### 12: zzKeyOK -/
def KeyPost (key : ByteArray) (w : World) (e : Ending) (w' : World) : Prop := (∃ r : Bool, e = .returned (.bool r) ∧ (r = true ↔ KeyGood key)) ∧ w' = w
theorem keyOK_any (key : ByteArray) (w : World) (h : key.size ≤ 9223372036854775807) : Calls Tryf.prog 12 #[.string key] w (KeyPost key w) := by
  by_cases h0 : key.size = 0
  · have : key = ByteArray.empty := by
      obtain ⟨d⟩ := key
      have : d = #[] := Array.eq_empty_of_size_eq_zero h0
      subst this; rfl
    subst this
    go_enter Tryf.func12, Tryf.ntmps12
    go_wp2
    go_ret
    exact ⟨⟨false, rfl, ⟨fun h => (by cases h), fun h => absurd rfl h.1⟩⟩, rfl⟩
  · have h2 := ne_empty h0
    by_cases h1 : (key.size : Int) ≤ 256
    · go_enter Tryf.func12, Tryf.ntmps12
      go_wp2
      go_ret
      exact ⟨⟨true, rfl, ⟨fun _ => ⟨h0, by omega⟩, fun _ => rfl⟩⟩, rfl⟩
    · go_enter Tryf.func12, Tryf.ntmps12
      go_wp2
      go_ret
      exact ⟨⟨false, rfl, ⟨fun h => (by cases h), fun h => absurd h.2 (by omega)⟩⟩, rfl⟩

/-! ### 30: storeOf -/
theorem storeOf_any (d : Bool) (w : World) : Calls Tryf.prog 30 #[.bool d] w fun e w' => e = .returned (.int .u8 (if d then 4 else 3)) ∧ w' = w := by
  cases d
  · go_enter Tryf.func30, Tryf.ntmps30
    go_wp2
    go_ret
    exact ⟨rfl, rfl⟩
  · go_enter Tryf.func30, Tryf.ntmps30
    go_wp2
    go_ret
    exact ⟨rfl, rfl⟩
end Go.Proofs.Qxb6615539aFmt
