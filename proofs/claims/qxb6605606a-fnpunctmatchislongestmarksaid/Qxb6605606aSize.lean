import Derived.Test.Qxb6605606aMatch
namespace Go.Proofs.Qxb6605606a
open Go.RowKit

set_option maxHeartbeats 1600000 in
set_option maxRecDepth 100000 in
/-- punctBytesOK: true only where no row has more than 65536 strings. -/
theorem bytesOK_any (T : Nat) (x : Int) (R : Nat → List ByteArray) (w : World) (ht : Tab w T R) (hx0 : 0 ≤ x) (hx1 : x ≤ 1048576) :
    Calls Try.prog 8 #[.pointer (some ⟨T, 0, none⟩), .int .i64 x] w fun e w' => BoolImp e (∀ c, c < 128 → (R c).length ≤ 65536) ∧ w = w' := by
  have hxd : decide (x < 0) = false := by simp; omega
  go_enter Try.func8, Try.ntmps8
  go_wp2
  go_loopg [5, 6] 128 (fun g tot c wr => ∃ (k : Nat) (t : Int), k + g = 128 ∧ c = .int .i64 k ∧ tot = .int .i64 t ∧ 0 ≤ t ∧ t ≤ 1048576 ∧ w = wr ∧ ∀ j, j < k → (R j).length ≤ 65536)
  case atStart => exact ⟨0, x, by omega, rfl, rfl, hx0, hx1, rfl, fun j hj => absurd hj (Nat.not_lt_zero _)⟩
  case round =>
    obtain ⟨k, t, hk, rfl, rfl, ht0, ht1, rfl, ih⟩ := hrel
    have HI : Hid (∀ j, j < k → (R j).length ≤ 65536) := ih
    have HK : Hid (k + gk = 128) := hk
    have hk1 : k ≤ 128 := by omega
    clear ih hk
    by_cases hlt : k < 128
    · obtain ⟨v, hv, hl, hrow⟩ := ht k hlt
      generalize hRl : R k = l at *
      have HR : Hid (R k = l) := hRl
      clear hRl ht
      rcases hrow with ⟨rfl, a, c, rfl⟩ | ⟨b, off, c, rfl, hc⟩
      · go_wp2
        refine wp_loop_rounds 1 ?_
        rw [rounds_succ]
        go_wp2
        go_roundg (128 - (k + 1))
        case measure => have := HK.out; omega
        case rel =>
          refine ⟨k + 1, t, by have := HK.out; omega, by go_num, by go_num, ht0, ht1, rfl, fun j hj => ?_⟩
          by_cases e : j = k
          · subst e; rw [HR.out]; simp
          · exact HI.out j (by omega)
      · by_cases hb : 65536 < l.length
        · go_wp2
          go_ret
          exact ⟨⟨false, rfl, fun h => by cases h⟩, rfl⟩
        · go_wp2
          · go_ret
            exact ⟨⟨false, rfl, fun h => by cases h⟩, rfl⟩
          · have hge : t + 16 * (l.length : Int) ≤ 1048576 := by assumption
            go_loopg [5, 8] l.length (fun g tot i wr => ∃ (m : Nat) (u : Int), m + g = l.length ∧ i = .int .i64 m ∧ tot = .int .i64 u ∧ 0 ≤ u ∧ u ≤ 1048576 ∧ w = wr)
            case atStart => exact ⟨0, _, by omega, rfl, rfl, by omega, by omega, rfl⟩
            case round =>
              obtain ⟨m, u, hm, rfl, rfl, hu0, hu1, rfl⟩ := hrel
              have HM : Hid (m + gk = l.length) := hm
              have hm1 : m ≤ l.length := by omega
              clear hm
              by_cases hml : m < l.length
              · have hcell := hc m hml
                generalize l.getD m ByteArray.empty = y at hcell
                clear hc
                go_wp2
                · go_ret
                  exact ⟨⟨false, rfl, fun h => by cases h⟩, rfl⟩
                · go_ret
                  exact ⟨⟨false, rfl, fun h => by cases h⟩, rfl⟩
                · have hle : u + (y.size : Int) ≤ 1048576 := by assumption
                  go_roundg (l.length - (m + 1))
                  case measure => have := HM.out; omega
                  case rel => exact ⟨m + 1, _, by omega, by go_num, rfl, by omega, hle, rfl⟩
              · go_wp2
                go_roundg (128 - (k + 1))
                case measure => have := HK.out; omega
                case rel =>
                  refine ⟨k + 1, u, by omega, by go_num, rfl, hu0, hu1, rfl, fun j hj => ?_⟩
                  by_cases e : j = k
                  · subst e; rw [HR.out]; omega
                  · exact HI.out j (by omega)
    · obtain rfl : k = 128 := by omega
      clear ht
      go_wp2
      go_ret
      exact ⟨⟨true, rfl, fun _ => HI.out⟩, rfl⟩
end Go.Proofs.Qxb6605606a
