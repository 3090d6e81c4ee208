import Derived.Test.Qxb6605789aParts
import Derived.Deep.LoopGhost
namespace Go.Proofs.Qxb6605789a
open Go.RowKit

set_option maxHeartbeats 400000 in
/-- More codes than the law takes: true at once. -/
theorem first_out (a0 : Int) (a : Option Addr) (len cap : Nat) (w : World) (h : 131072 < len) (hm : len ≤ 9223372036854775807) :
    Calls Try.prog 3 #[.int .i64 a0, .slice a len cap] w fun e w' => e = .returned (.bool true) ∧ Below w.heap.size w w' := by
  by_cases hb : 1048576 < len
  · go_enter Try.func3, Try.ntmps3
    go_wp2
    go_ret
    exact ⟨rfl, Below.refl _ _⟩
  · go_enter Try.func3, Try.ntmps3
    go_wp2
    go_ret
    exact ⟨rfl, Below.refl _ _⟩

set_option maxHeartbeats 400000 in
/-- No code at all. -/
theorem first_none (a0 : Int) (a : Option Addr) (cap : Nat) (w : World) :
    Calls Try.prog 3 #[.int .i64 a0, .slice a 0 cap] w fun e w' => e = .returned (.bool true) ∧ Below w.heap.size w w' := by
  have B0 := below_new w.heap.size w (.cells #[.map none, .int .i64 a0] 35) (.cells #[.iface 24 (.pointer (some ⟨w.heap.size, 0, none⟩)), .int .i64 0] 39) (Nat.le_refl _)
  go_enter Try.func3, Try.ntmps3
  go_wp2
  refine wp_loop_rounds 1 ?_
  rw [rounds_succ]
  go_wp2
  go_ret
  exact ⟨rfl, B0⟩

/-- The last code of the first k, or what the probe held. -/
def lst (a0 : Int) (zs : List Int) (k : Nat) : Int := if k = 0 then a0 else zs.getD (k - 1) 0

theorem zz5 (a0 : Int) (a : Option Addr) (len cap : Nat) (w : World) (h : len ≤ 131072) :
    Calls Try.prog 5 #[.int .i64 a0, .slice a len cap] w fun e w' => e = .returned (.bool true) ∧ w = w' := by
  go_enter Try.func5, Try.ntmps5
  go_wp2
  go_ret
  exact ⟨rfl, rfl⟩

set_option maxHeartbeats 1600000 in
theorem first_some (a0 : Int) (b off len cap : Nat) (zs : List Int) (w : World) (h : len ≤ 131072) (h0 : 0 < len) (hl : len ≤ zs.length) (hb : b < w.heap.size)
    (hc : ∀ j, j < zs.length → w.cell? ⟨b, off + j, none⟩ = some (.int .i64 (zs.getD j 0))) :
    Calls Try.prog 3 #[.int .i64 a0, .slice (some ⟨b, off, none⟩) len cap] w fun e w' => e = .returned (.bool true) ∧ Below w.heap.size w w' := by
  have P0 := pair_new w 0 a0
  have B0 := below_new w.heap.size w (.cells #[.map none, .int .i64 a0] 35) (.cells #[.iface 24 (.pointer (some ⟨w.heap.size, 0, none⟩)), .int .i64 0] 39) (Nat.le_refl _)
  go_enter Try.func3, Try.ntmps3
  go_wp2_with (first
    | (go_at_call 5; refine (zz5 _ _ _ _ _ h).mono ?_; rintro e w' ⟨rfl, rfl⟩)
    | (go_at_call 6; refine (new6 _ _).mono ?_; rintro e w' ⟨rfl, rfl⟩)
    | (go_at_call 7; refine (new7 _ _ _).mono ?_; rintro e w' ⟨rfl, rfl⟩))
  go_loopg [7, 8, 9] len (fun g want found i wr => ∃ (k : Nat) (r : Int), k + g = len ∧ i = .int .i64 k ∧ Pair wr (w.heap.size + 1) w.heap.size r (lst a0 zs k) ∧ Below w.heap.size w wr ∧
      ((r = 0 ∧ want = .int .i64 200 ∧ found = .bool false) ∨ (200 ≤ r ∧ want = .int .i64 r ∧ found = .bool true)))
  case atStart => exact ⟨0, 0, by omega, rfl, P0, B0, .inl ⟨rfl, rfl, rfl⟩⟩
  case round =>
    obtain ⟨k, r, hk0, rfl, hP, hB, hr⟩ := hrel
    have hk : k ≤ len := by omega
    have HK : Hid (k + gk = len) := hk0
    clear P0 B0 hk0
    by_cases hlt : k < len
    · obtain ⟨c, hcc⟩ : ∃ c, c = zs.getD k 0 := ⟨_, rfl⟩
      have hcell : wr.cell? ⟨b, off + k, none⟩ = some (.int .i64 c) := by rw [hcc]; exact (hB.cell (by exact hb)).trans (hc k (by omega))
      have HC : Hid (c = lst a0 zs (k + 1)) := by rw [hcc]; simp [lst, Hid]
      clear hcc hc
      rcases hr with ⟨rfl, rfl, rfl⟩ | ⟨hr, rfl, rfl⟩
      · by_cases h2 : 200 ≤ c
        · go_wp2_with (first
            | (go_at_call 8; refine (wh8 _ _ _ _ _ _ hP).mono ?_; rintro e w1 ⟨rfl, hP1, hB1⟩)
            | (go_at_call 9; refine (probe9 _ _ _ hP1.d1).mono ?_; rintro e w' ⟨rfl, rfl⟩))
          go_roundg (gk - 1)
          case measure => have := HK.out; omega
          case rel => exact ⟨k + 1, c, by have := HK.out; omega, by go_num, by rw [← HC.out]; unfold stat at hP1; rw [if_pos ⟨rfl, h2⟩] at hP1; exact hP1, hB.trans (hB1 _ (by omega) (by omega)), .inr ⟨h2, rfl, rfl⟩⟩
        · have h2' : decide (200 ≤ c) = false := by simpa using h2
          go_wp2_with (first
            | (go_at_call 8; refine (wh8 _ _ _ _ _ _ hP).mono ?_; rintro e w1 ⟨rfl, hP1, hB1⟩)
            | (go_at_call 9; refine (probe9 _ _ _ hP1.d1).mono ?_; rintro e w' ⟨rfl, rfl⟩))
          go_roundg (gk - 1)
          case measure => have := HK.out; omega
          case rel => exact ⟨k + 1, 0, by have := HK.out; omega, by go_num, by rw [← HC.out]; unfold stat at hP1; rw [if_neg (by omega)] at hP1; exact hP1, hB.trans (hB1 _ (by omega) (by omega)), .inl ⟨rfl, rfl, rfl⟩⟩
      · go_wp2_with (first
            | (go_at_call 8; refine (wh8 _ _ _ _ _ _ hP).mono ?_; rintro e w1 ⟨rfl, hP1, hB1⟩)
            | (go_at_call 9; refine (probe9 _ _ _ hP1.d1).mono ?_; rintro e w' ⟨rfl, rfl⟩))
        go_roundg (gk - 1)
        case measure => have := HK.out; omega
        case rel => exact ⟨k + 1, r, by have := HK.out; omega, by go_num, by rw [← HC.out]; unfold stat at hP1; rw [if_neg (by omega)] at hP1; exact hP1, hB.trans (hB1 _ (by omega) (by omega)), .inr ⟨hr, rfl, rfl⟩⟩
    · obtain rfl : k = len := by omega
      have hcell : wr.cell? ⟨b, off + (k - 1), none⟩ = some (.int .i64 (lst a0 zs k)) := by
        have e : lst a0 zs k = zs.getD (k - 1) 0 := by unfold lst; rw [if_neg (by omega)]
        rw [e]; exact (hB.cell (by exact hb)).trans (hc (k - 1) (by omega))
      generalize lst a0 zs k = l at *
      rcases hr with ⟨rfl, rfl, rfl⟩ | ⟨hr, rfl, rfl⟩
      · obtain ⟨-, c1, d1, -, -, -⟩ := hP
        clear hc
        go_wp2
        go_ret
        exact ⟨rfl, hB⟩
      · have hr0 : (r == 0) = false := beq_eq_false_iff_ne.2 (by omega)
        obtain ⟨-, c1, d1, -, -, -⟩ := hP
        clear hc
        go_wp2
        go_ret
        exact ⟨rfl, hB⟩
/-- The law, at every input: the slice as the frame hands it. -/
theorem first_any (a0 : Int) (a : Option Addr) (len cap : Nat) (zs : List Int) (w : World)
    (h : (a = none ∧ len = 0 ∧ cap = 0 ∧ zs = []) ∨ ∃ x, a = some x ∧ len ≤ cap ∧ cap ≤ maxLen ∧ zs.length = cap ∧ (∀ i, i < zs.length → w.cell? (x.add i) = some (.int .i64 (zs.getD i 0))) ∧ ∀ n ∈ zs, (Lit.int .i64 n).wf = true) :
    Calls Try.prog 3 #[.int .i64 a0, .slice a len cap] w fun e w' => e = .returned (.bool true) ∧ Below w.heap.size w w' := by
  rcases h with ⟨rfl, rfl, rfl, rfl⟩ | ⟨x, rfl, hl, hm, hz, hc, -⟩
  · exact first_none a0 none 0 w
  · by_cases h0 : len = 0
    · subst h0; exact first_none a0 _ cap w
    · by_cases hb : 131072 < len
      · exact first_out a0 _ len cap w hb (by unfold maxLen at hm; omega)
      · obtain ⟨b, off, spot⟩ := x
        have hspot : spot = none := by simpa [Addr.add] using World.cell?_spot (hc 0 (by omega))
        subst hspot
        have hcell : ∀ j, j < zs.length → w.cell? ⟨b, off + j, none⟩ = some (.int .i64 (zs.getD j 0)) := fun j hj => by rw [← WideShapes.add_plain]; exact hc j hj
        have hlt : b < w.heap.size := World.block_lt_of_cell? w _ (hcell 0 (by omega))
        exact first_some a0 b off len cap zs w (by omega) (by omega) (by omega) hlt hcell
end Go.Proofs.Qxb6605789a
