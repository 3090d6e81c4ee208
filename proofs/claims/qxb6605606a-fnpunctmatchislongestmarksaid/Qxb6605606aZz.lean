import Derived.Test.Qxb6605606aSize
namespace Go.Proofs.Qxb6605606a
open Go.RowKit

theorem StrRow.alloc {w : World} {v : Value} {l : List ByteArray} (h : StrRow w v l) (o : Obj) : StrRow (w.alloc o) v l :=
  h.cells (fun a x hx => by rw [World.cell?_alloc_lt _ _ _ (World.block_lt_of_cell? w a hx)]; exact hx)

/-- The array's 128 cells, each a slice that leads to strings. -/
def Arr (w : World) (xs : Array Value) (R : Nat → List ByteArray) : Prop := xs.size = 128 ∧ ∀ c, c < 128 → ∃ v, xs[c]? = some v ∧ StrRow w v (R c)

theorem Arr.box {w : World} {xs : Array Value} {R : Nat → List ByteArray} (h : Arr w xs R) : Tab (w.alloc (.cells xs 23)) w.heap.size R := fun c hc => by
  obtain ⟨v, h1, h2⟩ := h.2 c hc
  exact ⟨v, by rw [World.cell?_alloc_new]; exact h1, h2.alloc _⟩

/-- Some bool. -/
def SomeBool (e : Ending) : Prop := ∃ r : Bool, e = .returned (.bool r)

set_option maxHeartbeats 1600000 in
set_option maxRecDepth 100000 in
/-- zzBytes_FnPunctMatchIsLongestMark: some bool; the array is laid in a new block, and nothing else is done. -/
theorem zz7_any (xs : Array Value) (s : ByteArray) (R : Nat → List ByteArray) (w : World) (h : Arr w xs R) (_hs : s.size ≤ 9223372036854775807) :
    Calls Try.prog 7 #[.agg xs, .string s] w fun e w' => SomeBool e ∧ w' = w.alloc (.cells xs 23) := by
  have ht := h.box
  have hx := h.1
  clear h
  go_enter Try.func7, Try.ntmps7
  go_wp2
  generalize hw1 : w.alloc (.cells xs 23) = w1 at ht ⊢
  have HW : Hid (w.alloc (.cells xs 23) = w1) := hw1
  generalize w.heap.size = T at ht ⊢
  clear hw1 hx
  go_loopg [5, 6] 128 (fun g tot c wr => ∃ (k : Nat) (t : Int), k + g = 128 ∧ c = .int .i64 k ∧ tot = .int .i64 t ∧ 0 ≤ t ∧ t ≤ 1048576 ∧ w1 = wr)
  case atStart => exact ⟨0, 0, by omega, rfl, rfl, by omega, by omega, rfl⟩
  case round =>
    obtain ⟨k, t, hk, rfl, rfl, ht0, ht1, rfl⟩ := hrel
    have HK : Hid (k + gk = 128) := hk
    have hk1 : k ≤ 128 := by omega
    clear hk
    by_cases hlt : k < 128
    · obtain ⟨v, hv, hl, hrow⟩ := ht k hlt
      generalize R k = l at *
      clear ht
      rcases hrow with ⟨rfl, a, c, rfl⟩ | ⟨b, off, c, rfl, hc⟩
      · go_wp2
        refine wp_loop_rounds 1 ?_
        rw [rounds_succ]
        go_wp2
        go_roundg (128 - (k + 1))
        case measure => have := HK.out; omega
        case rel => exact ⟨k + 1, t, by have := HK.out; omega, by go_num, by go_num, ht0, ht1, rfl⟩
      · go_wp2
        · go_ret
          exact ⟨⟨false, rfl⟩, HW.out.symm⟩
        · go_ret
          exact ⟨⟨false, rfl⟩, HW.out.symm⟩
        · have hge : t + (l.length : Int) ≤ 1048576 := by assumption
          go_loopg [5, 7] l.length (fun g tot i wr => ∃ (m : Nat) (u : Int), m + g = l.length ∧ i = .int .i64 m ∧ tot = .int .i64 u ∧ 0 ≤ u ∧ u ≤ 1048576 ∧ w1 = wr)
          case atStart => exact ⟨0, _, by omega, rfl, rfl, by omega, by omega, rfl⟩
          case round =>
            obtain ⟨m, u, hm, rfl, rfl, hu0, hu1, rfl⟩ := hrel
            have HM : Hid (m + gk = l.length) := hm
            have hm1 : m ≤ l.length := by omega
            clear hm
            by_cases hml : m < l.length
            · have hcell := hc m hml
              generalize l.getD m ByteArray.empty = y at hcell
              clear hc
              go_wp2
              · go_ret
                exact ⟨⟨false, rfl⟩, HW.out.symm⟩
              · go_ret
                exact ⟨⟨false, rfl⟩, HW.out.symm⟩
              · have hle : u + (y.size : Int) ≤ 1048576 := by assumption
                go_roundg (l.length - (m + 1))
                case measure => have := HM.out; omega
                case rel => exact ⟨m + 1, _, by omega, by go_num, rfl, by omega, hle, rfl⟩
            · go_wp2
              go_roundg (128 - (k + 1))
              case measure => have := HK.out; omega
              case rel => exact ⟨k + 1, u, by omega, by go_num, rfl, hu0, hu1, rfl⟩
    · obtain rfl : k = 128 := by omega
      clear ht
      go_wp2
      all_goals go_ret
      all_goals exact ⟨⟨_, rfl⟩, HW.out.symm⟩

set_option maxHeartbeats 1600000 in
set_option maxRecDepth 100000 in
/-- zzBytes_FnPunctMatchMaximalMunch: some bool; the array is laid in a new block, and nothing else is done. -/
theorem zz13_any (xs : Array Value) (s t : ByteArray) (R : Nat → List ByteArray) (w : World) (h : Arr w xs R) (_hs : s.size ≤ 9223372036854775807) (_ht : t.size ≤ 9223372036854775807) :
    Calls Try.prog 13 #[.agg xs, .string s, .string t] w fun e w' => SomeBool e ∧ w' = w.alloc (.cells xs 23) := by
  have ht := h.box
  have hx := h.1
  clear h
  go_enter Try.func13, Try.ntmps13
  go_wp2
  generalize hw1 : w.alloc (.cells xs 23) = w1 at ht ⊢
  have HW : Hid (w.alloc (.cells xs 23) = w1) := hw1
  generalize w.heap.size = T at ht ⊢
  clear hw1 hx
  go_loopg [7, 8] 128 (fun g tot c wr => ∃ (k : Nat) (t : Int), k + g = 128 ∧ c = .int .i64 k ∧ tot = .int .i64 t ∧ 0 ≤ t ∧ t ≤ 1048576 ∧ w1 = wr)
  case atStart => exact ⟨0, 0, by omega, rfl, rfl, by omega, by omega, rfl⟩
  case round =>
    obtain ⟨k, t, hk, rfl, rfl, ht0, ht1, rfl⟩ := hrel
    have HK : Hid (k + gk = 128) := hk
    have hk1 : k ≤ 128 := by omega
    clear hk
    by_cases hlt : k < 128
    · obtain ⟨v, hv, hl, hrow⟩ := ht k hlt
      generalize R k = l at *
      clear ht
      rcases hrow with ⟨rfl, a, c, rfl⟩ | ⟨b, off, c, rfl, hc⟩
      · go_wp2
        refine wp_loop_rounds 1 ?_
        rw [rounds_succ]
        go_wp2
        go_roundg (128 - (k + 1))
        case measure => have := HK.out; omega
        case rel => exact ⟨k + 1, t, by have := HK.out; omega, by go_num, by go_num, ht0, ht1, rfl⟩
      · go_wp2
        · go_ret
          exact ⟨⟨false, rfl⟩, HW.out.symm⟩
        · go_ret
          exact ⟨⟨false, rfl⟩, HW.out.symm⟩
        · have hge : t + (l.length : Int) ≤ 1048576 := by assumption
          go_loopg [7, 9] l.length (fun g tot i wr => ∃ (m : Nat) (u : Int), m + g = l.length ∧ i = .int .i64 m ∧ tot = .int .i64 u ∧ 0 ≤ u ∧ u ≤ 1048576 ∧ w1 = wr)
          case atStart => exact ⟨0, _, by omega, rfl, rfl, by omega, by omega, rfl⟩
          case round =>
            obtain ⟨m, u, hm, rfl, rfl, hu0, hu1, rfl⟩ := hrel
            have HM : Hid (m + gk = l.length) := hm
            have hm1 : m ≤ l.length := by omega
            clear hm
            by_cases hml : m < l.length
            · have hcell := hc m hml
              generalize l.getD m ByteArray.empty = y at hcell
              clear hc
              go_wp2
              · go_ret
                exact ⟨⟨false, rfl⟩, HW.out.symm⟩
              · go_ret
                exact ⟨⟨false, rfl⟩, HW.out.symm⟩
              · have hle : u + (y.size : Int) ≤ 1048576 := by assumption
                go_roundg (l.length - (m + 1))
                case measure => have := HM.out; omega
                case rel => exact ⟨m + 1, _, by omega, by go_num, rfl, by omega, hle, rfl⟩
            · go_wp2
              go_roundg (128 - (k + 1))
              case measure => have := HK.out; omega
              case rel => exact ⟨k + 1, u, by omega, by go_num, rfl, hu0, hu1, rfl⟩
    · obtain rfl : k = 128 := by omega
      clear ht
      go_wp2
      all_goals go_ret
      all_goals exact ⟨⟨_, rfl⟩, HW.out.symm⟩

end Go.Proofs.Qxb6605606a
