import Derived.Test.Qxb6605634aLeaf
namespace Go.Proofs.Qxb6605634a
open Go.RowKit

set_option maxHeartbeats 1600000 in
set_option maxRecDepth 100000 in
theorem validIdent_any (s : ByteArray) (w : World) (hs : s.size ≤ 9223372036854775807) :
    Calls Try.prog 63 #[.string s] w fun e w' => SomeBool e ∧ w = w' := by
  by_cases h0 : s.size = 0
  · have h0' : ((s.size : Int) == 0) = true := by simp [h0]
    clear h0
    go_enter Try.func63, Try.ntmps63
    go_wp2_with fail
    go_ret
    exact ⟨⟨false, rfl⟩, rfl⟩
  · have h0' : ((s.size : Int) == 0) = false := beq_eq_false_iff_ne.2 (by omega)
    have h0p : 0 < s.size := by omega
    clear h0
    go_enter Try.func63, Try.ntmps63
    go_wp2_with fail
    go_loopg [3, 4] s.size (fun g nu i wr => ∃ (k : Nat) (b : Bool), k + g = s.size ∧ i = .int .i64 k ∧ nu = .bool b ∧ w = wr)
    case atStart => exact ⟨0, true, by omega, rfl, rfl, rfl⟩
    case round =>
      obtain ⟨k, b, hk, rfl, rfl, rfl⟩ := hrel
      have HK : Hid (k + gk = s.size) := hk
      have hk1 : k ≤ s.size := by omega
      clear hk
      by_cases hlt : k < s.size
      · cases hd : dg ((s[k]'hlt).toNat : Int) with
        | true =>
          have HD : Hid (dg ((s[k]'hlt).toNat : Int) = true) := hd
          clear hd
          go_wp2_with (go_at_call 74; refine (isDigit_any _ _).mono ?_; rw [HD.out]; rintro e w' ⟨rfl, rfl⟩)
          go_roundg (s.size - (k + 1))
          case measure => have := HK.out; omega
          case rel => exact ⟨k + 1, b, by omega, by go_num, rfl, rfl⟩
        | false =>
          have HD : Hid (dg ((s[k]'hlt).toNat : Int) = false) := hd
          clear hd
          go_wp2_with (go_at_call 74; refine (isDigit_any _ _).mono ?_; rw [HD.out]; rintro e w' ⟨rfl, rfl⟩)
          all_goals first
            | (go_ret; exact ⟨⟨_, rfl⟩, rfl⟩)
            | (go_roundg (s.size - (k + 1))
               case measure => have := HK.out; omega
               case rel => exact ⟨k + 1, false, by omega, by go_num, rfl, rfl⟩)
      · cases b
        all_goals go_wp2_with fail
        all_goals go_ret
        all_goals exact ⟨⟨_, rfl⟩, rfl⟩

theorem extract_le (s : ByteArray) (a b : Nat) (h : s.size ≤ 1048576) : (s.extract a b).size ≤ 9223372036854775807 := by
  have : (s.extract a b).size ≤ s.size := by rw [ByteArray.size_extract]; omega
  omega

set_option maxHeartbeats 1600000 in
set_option maxRecDepth 100000 in
theorem validPre_any (s : ByteArray) (w : World) (hs : s.size ≤ 1048576) :
    Calls Try.prog 51 #[.string s] w fun e w' => SomeBool e ∧ w = w' := by
  go_enter Try.func51, Try.ntmps51
  go_wp2_with fail
  · go_ret
    exact ⟨⟨_, rfl⟩, rfl⟩
  · rename (s.toList.isEmpty = false) => hh
    clear hh
    go_loopg [3] (s.size + 1) (fun g st wr => ∃ k : Nat, k + g = s.size + 1 ∧ st = .int .i64 k ∧ w = wr)
    case atStart => exact ⟨0, by omega, rfl, rfl⟩
    case round =>
      obtain ⟨k, hk, rfl, rfl⟩ := hrel
      have HK : Hid (k + gk = s.size + 1) := hk
      have hk1 : k ≤ s.size + 1 := by omega
      clear hk
      by_cases hle : k ≤ s.size
      · go_wp2_with fail
        go_loopg [4] (s.size - k) (fun g en wr => ∃ m : Nat, k ≤ m ∧ m + g = s.size ∧ en = .int .i64 m ∧ w = wr)
        case atStart => exact ⟨k, Nat.le_refl _, by omega, rfl, rfl⟩
        case round =>
          obtain ⟨m, hkm, hm, rfl, rfl⟩ := hrel
          have HM : Hid (m + gk = s.size) := hm
          have hm1 : m ≤ s.size := by omega
          clear hm
          by_cases hlt : m < s.size
          · go_wp2_with fail
            · go_roundg (s.size - (m + 1))
              case measure => have := HM.out; omega
              case rel => exact ⟨m + 1, by omega, by omega, by go_num, rfl⟩
            · refine (validIdent_any _ _ (extract_le s k m hs)).mono ?_
              rintro e w' ⟨⟨r, rfl⟩, rfl⟩
              cases r
              · go_wp2_with fail
                go_ret
                exact ⟨⟨_, rfl⟩, rfl⟩
              · go_wp2_with fail
                go_roundg (s.size + 1 - (m + 1))
                case measure => have := HK.out; omega
                case rel => exact ⟨m + 1, by omega, by go_num, rfl⟩
          · have hd : decide ((m : Int) < (s.size : Int)) = false := by simp; omega
            go_wp2_with fail
            refine (validIdent_any _ _ (extract_le s k m hs)).mono ?_
            rintro e w' ⟨⟨r, rfl⟩, rfl⟩
            cases r
            · go_wp2_with fail
              go_ret
              exact ⟨⟨_, rfl⟩, rfl⟩
            · go_wp2_with fail
              go_roundg (s.size + 1 - (m + 1))
              case measure => have := HK.out; omega
              case rel => exact ⟨m + 1, by omega, by go_num, rfl⟩
      · go_wp2_with fail
        go_ret
        exact ⟨⟨_, rfl⟩, rfl⟩

set_option maxHeartbeats 1600000 in
set_option maxRecDepth 100000 in
theorem valueOf_any (s : ByteArray) (w : World) (hs : s.size ≤ 1048576) :
    Calls Try.prog 66 #[.string s] w fun e w' => SomeU64 e ∧ w = w' := by
  by_cases h : 19 < s.size
  · go_enter Try.func66, Try.ntmps66
    go_wp2_with fail
    go_ret
    exact ⟨⟨_, rfl⟩, rfl⟩
  · go_enter Try.func66, Try.ntmps66
    go_wp2_with fail
    go_loopg [3, 4] s.size (fun g va i wr => ∃ (k : Nat) (v : Int), k + g = s.size ∧ i = .int .i64 k ∧ va = .int .u64 v ∧ w = wr)
    case atStart => exact ⟨0, 0, by omega, rfl, rfl, rfl⟩
    case round =>
      obtain ⟨k, v, hk, rfl, rfl, rfl⟩ := hrel
      have HK : Hid (k + gk = s.size) := hk
      have hk1 : k ≤ s.size := by omega
      clear hk
      by_cases hlt : k < s.size
      · go_wp2_with fail
        go_roundg (s.size - (k + 1))
        case measure => have := HK.out; omega
        case rel => exact ⟨k + 1, _, by omega, by go_num, rfl, rfl⟩
      · go_wp2_with fail
        go_ret
        exact ⟨⟨_, rfl⟩, rfl⟩
end Go.Proofs.Qxb6605634a
