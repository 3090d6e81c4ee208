import Derived.Test.Qxb6605687aOps
namespace Go.Proofs.Qxb6605687a
open Go.RowKit

/-- It returns some bool. -/
def SomeBool (e : Ending) : Prop := ∃ r : Bool, e = .returned (.bool r)

/-- A slice of strings that reads as l. -/
def SRow (w : World) (a : Option Addr) (l : List ByteArray) : Prop :=
  l = [] ∨ ∃ b off, a = some ⟨b, off, none⟩ ∧ ∀ i, i < l.length → w.cell? ⟨b, off + i, none⟩ = some (.string (l.getD i ByteArray.empty))

set_option maxHeartbeats 1600000 in
set_option maxRecDepth 100000 in
theorem zz4_any (a ra : Option Addr) (l : List ByteArray) (c rn rc : Nat) (w : World) (h : SRow w a l) (hl : l.length ≤ 9223372036854775807) (hr : rn ≤ 9223372036854775807) :
    Calls Try.prog 4 #[.slice a l.length c, .slice ra rn rc] w fun e w' => SomeBool e ∧ w = w' := by
  by_cases hb : 1048576 < l.length
  · clear h
    go_enter Try.func4, Try.ntmps4
    go_wp2_with fail
    go_ret
    exact ⟨⟨_, rfl⟩, rfl⟩
  · go_enter Try.func4, Try.ntmps4
    go_wp2_with fail
    go_loopg [5, 6] l.length (fun g tot i wr => ∃ (k : Nat) (t : Int), k + g = l.length ∧ i = .int .i64 k ∧ tot = .int .i64 t ∧ 0 ≤ t ∧ t ≤ 1048576 ∧ w = wr)
    case atStart => exact ⟨0, _, by omega, rfl, rfl, by omega, by omega, rfl⟩
    case round =>
      obtain ⟨k, t, hk, rfl, rfl, ht0, ht1, rfl⟩ := hrel
      have HK : Hid (k + gk = l.length) := hk
      have hk1 : k ≤ l.length := by omega
      clear hk
      by_cases hlt : k < l.length
      · rcases h with rfl | ⟨b, off, rfl, hc⟩
        · simp at hlt
        · have hcell := hc k hlt
          generalize l.getD k ByteArray.empty = y at hcell
          clear hc
          go_wp2_with fail
          · go_ret
            exact ⟨⟨_, rfl⟩, rfl⟩
          · go_ret
            exact ⟨⟨_, rfl⟩, rfl⟩
          · have hle : t + (y.size : Int) ≤ 1048576 := by assumption
            go_roundg (l.length - (k + 1))
            case measure => have := HK.out; omega
            case rel => exact ⟨k + 1, _, by omega, by go_num, rfl, by omega, hle, rfl⟩
      · clear h
        go_wp2_with fail
        all_goals go_ret
        all_goals exact ⟨⟨_, rfl⟩, rfl⟩
end Go.Proofs.Qxb6605687a
