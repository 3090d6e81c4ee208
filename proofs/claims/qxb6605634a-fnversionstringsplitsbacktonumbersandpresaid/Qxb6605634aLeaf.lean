import Derived.Test.Qxb6605634aChecked
import Derived.WalkKit
import Derived.Deep.LoopGhost
import Derived.WalkSpells
import Derived.WalkLawsBesides
import Derived.Lib.Strings
namespace Go.Proofs.Qxb6605634a
open Go.RowKit

/-- It returns a bool that is true only where p holds. -/
def BoolImp (e : Ending) (p : Prop) : Prop := ∃ r : Bool, e = .returned (.bool r) ∧ (r = true → p)
/-- It returns some bool. -/
def SomeBool (e : Ending) : Prop := ∃ r : Bool, e = .returned (.bool r)
/-- It returns some uint64. -/
def SomeU64 (e : Ending) : Prop := ∃ r : Int, e = .returned (.int .u64 r)

/-- The bytes of a string. -/
def dat (s : ByteArray) : List UInt8 := s.data.toList
theorem dat_length (s : ByteArray) : (dat s).length = s.size := (Lib.size_eq s).symm

/-- A decimal digit. -/
def dg (x : Int) : Bool := decide (48 ≤ x ∧ x ≤ 57)
/-- Every byte is a digit. -/
def Digits (s : ByteArray) : Prop := ∀ j (h : j < s.size), dg ((s[j]'h).toNat : Int) = true

set_option maxHeartbeats 400000 in
theorem isDigit_any (x : Int) (w : World) : Calls Try.prog 74 #[.int .u8 x] w fun e w' => e = .returned (.bool (dg x)) ∧ w = w' := by
  by_cases h1 : 48 ≤ x
  · by_cases h2 : x ≤ 57
    · have H : Hid (dg x = true) := by unfold Hid dg; simp [h1, h2]
      go_enter Try.func74, Try.ntmps74
      go_wp2
      go_ret
      exact ⟨by rw [H.out]; rfl, rfl⟩
    · have H : Hid (dg x = false) := by unfold Hid dg; simp [h2]
      have h2' : decide (x ≤ 57) = false := by simpa using h2
      go_enter Try.func74, Try.ntmps74
      go_wp2
      go_ret
      exact ⟨by rw [H.out]; rfl, rfl⟩
  · have H : Hid (dg x = false) := by unfold Hid dg; simp [h1]
    have h1' : decide (48 ≤ x) = false := by simpa using h1
    go_enter Try.func74, Try.ntmps74
    go_wp2
    go_ret
    exact ⟨by rw [H.out]; rfl, rfl⟩

set_option maxHeartbeats 400000 in
set_option maxRecDepth 100000 in
theorem allDigits_any (s : ByteArray) (w : World) (hs : s.size ≤ 9223372036854775807) :
    Calls Try.prog 62 #[.string s] w fun e w' => BoolImp e (Digits s) ∧ w = w' := by
  go_enter Try.func62, Try.ntmps62
  go_wp2
  go_loopg [3] s.size (fun g i wr => ∃ k : Nat, k + g = s.size ∧ i = .int .i64 k ∧ w = wr ∧ ∀ j (h : j < s.size), j < k → dg ((s[j]'h).toNat : Int) = true)
  case atStart => exact ⟨0, by omega, rfl, rfl, fun j _ hj => absurd hj (Nat.not_lt_zero _)⟩
  case round =>
    obtain ⟨k, hk, rfl, rfl, ih⟩ := hrel
    have HI : Hid (∀ j (h : j < s.size), j < k → dg ((s[j]'h).toNat : Int) = true) := ih
    have HK : Hid (k + gk = s.size) := hk
    have hk1 : k ≤ s.size := by omega
    clear ih hk
    by_cases hlt : k < s.size
    · cases hd : dg ((s[k]'hlt).toNat : Int) with
      | true =>
        have HD : Hid (dg ((s[k]'hlt).toNat : Int) = true) := hd
        clear hd
        go_wp2_with (go_at_call 74; refine (isDigit_any _ _).mono ?_; rw [HD.out]; rintro e w' ⟨rfl, rfl⟩)
        go_roundg (s.size - (k + 1))
        case measure => have := HK.out; omega
        case rel =>
          refine ⟨k + 1, by omega, by go_num, rfl, fun j h hj => ?_⟩
          by_cases e : j = k
          · subst e; exact HD.out
          · exact HI.out j h (by omega)
      | false =>
        have HD : Hid (dg ((s[k]'hlt).toNat : Int) = false) := hd
        clear hd
        go_wp2_with (go_at_call 74; refine (isDigit_any _ _).mono ?_; rw [HD.out]; rintro e w' ⟨rfl, rfl⟩)
        go_ret
        exact ⟨⟨false, rfl, fun h => by cases h⟩, rfl⟩
    · go_wp2_with fail
      go_ret
      exact ⟨⟨true, rfl, fun _ j h => HI.out j h (by omega)⟩, rfl⟩

set_option maxHeartbeats 400000 in
set_option maxRecDepth 100000 in
theorem validNumber_any (s : ByteArray) (w : World) (hs : s.size ≤ 9223372036854775807) :
    Calls Try.prog 50 #[.string s] w fun e w' => BoolImp e (Digits s) ∧ w = w' := by
  by_cases h0 : s.size = 0
  · have h0' : ((s.size : Int) == 0) = true := by simp [h0]
    clear h0
    go_enter Try.func50, Try.ntmps50
    go_wp2_with fail
    go_ret
    exact ⟨⟨false, rfl, fun h => by cases h⟩, rfl⟩
  · have h0' : ((s.size : Int) == 0) = false := beq_eq_false_iff_ne.2 (by omega)
    have h0p : 0 < s.size := by omega
    clear h0
    go_enter Try.func50, Try.ntmps50
    go_wp2_with fail
    refine (allDigits_any s _ hs).mono ?_
    rintro e w' ⟨⟨r, rfl, hr⟩, rfl⟩
    cases r
    · clear hr
      go_wp2_with fail
      go_ret
      exact ⟨⟨false, rfl, fun h => by cases h⟩, rfl⟩
    · have HR : Hid (Digits s) := hr rfl
      clear hr
      go_wp2_with fail
      all_goals go_ret
      all_goals exact ⟨⟨_, rfl, fun _ => HR.out⟩, rfl⟩
end Go.Proofs.Qxb6605634a
