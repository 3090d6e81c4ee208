import Derived.Test.Qxb6605789aParts
namespace Go.Proofs.Qxb6605789a
open Go.RowKit

/-- The record behind one call, and behind two, from a state that the package can reach. -/
theorem stat_twice (x s : Int) : stat (stat x s) s = stat x s := by
  unfold stat
  by_cases h : x = 0 ∧ 200 ≤ s
  · rw [if_pos h]; split <;> rfl
  · rw [if_neg h, if_neg h]

theorem twice_out (a0 a1 a2 : Int) (w : World) (h1 : (a0 != 0) = true) (h2 : a0 < 200) :
    Calls Try.prog 4 #[.int .i64 a0, .int .i64 a1, .int .i64 a2] w fun e w' => e = .returned (.bool true) ∧ Below w.heap.size w w' := by
  go_enter Try.func4, Try.ntmps4
  go_wp2
  go_ret
  exact ⟨rfl, Below.refl _ _⟩

theorem stat_b (a2 : Int) (h : 200 ≤ a2) : stat 0 a2 = a2 := by unfold stat; rw [if_pos ⟨rfl, h⟩]
theorem stat_c (a2 : Int) (h : a2 < 200) : stat 0 a2 = 0 := by unfold stat; rw [if_neg (fun hc => by have := hc.2; omega)]
theorem stat_a (a0 a2 : Int) (h : (a0 == 0) = false) : stat a0 a2 = a0 := by
  unfold stat; rw [if_neg]; rintro ⟨rfl, -⟩; simp at h
set_option maxHeartbeats 400000 in
theorem twice_a (a0 a1 a2 : Int) (w : World) (h1 : 200 ≤ a0) (h2 : (a0 != 0) = true) (h3 : (a0 == 0) = false) :
    Calls Try.prog 4 #[.int .i64 a0, .int .i64 a1, .int .i64 a2] w fun e w' => e = .returned (.bool true) ∧ Below w.heap.size w w' := by
  have P0 := pair_new w a0 a1
  have B0 := below_new w.heap.size w (.cells #[.map none, .int .i64 a1] 35) (.cells #[.iface 24 (.pointer (some ⟨w.heap.size, 0, none⟩)), .int .i64 a0] 39) (Nat.le_refl _)
  go_enter Try.func4, Try.ntmps4
  go_wp2_with (first
    | (go_at_call 6; refine (new6 _ _).mono ?_; rintro e w' ⟨rfl, rfl⟩)
    | (go_at_call 7; refine (new7 _ _ _).mono ?_; rintro e w' ⟨rfl, rfl⟩))
  refine (wh8 _ _ _ _ _ _ P0).mono ?_
  rintro e w1 ⟨rfl, P1, B1⟩
  replace P1 : Pair w1 (w.heap.size + 1) w.heap.size a0 a2 := by rw [stat_a a0 a2 h3] at P1; exact P1
  have hz : w.heap.size + 2 ≤ w1.heap.size := by have := (B1 0 (Nat.zero_le _) (Nat.zero_le _)).size; simp at this; omega
  replace B1 := B0.trans (B1 w.heap.size (by omega) (by omega))
  clear B0 P0
  have Q0 := pair_new w1 a0 a1
  have C0 := below_new w1.heap.size w1 (.cells #[.map none, .int .i64 a1] 35) (.cells #[.iface 24 (.pointer (some ⟨w1.heap.size, 0, none⟩)), .int .i64 a0] 39) (Nat.le_refl _)
  go_wp2_with (first
    | (go_at_call 6; refine (new6 _ _).mono ?_; rintro e w' ⟨rfl, rfl⟩)
    | (go_at_call 7; refine (new7 _ _ _).mono ?_; rintro e w' ⟨rfl, rfl⟩))
  refine (wh8 _ _ _ _ _ _ Q0).mono ?_
  rintro e w2 ⟨rfl, Q1, C1⟩
  replace Q1 : Pair w2 (w1.heap.size + 1) w1.heap.size a0 a2 := by rw [stat_a a0 a2 h3] at Q1; exact Q1
  replace C1 := C0.trans (C1 w1.heap.size (by omega) (by omega))
  clear C0 Q0
  go_wp2_with fail
  refine (wh8 _ _ _ _ _ _ Q1).mono ?_
  rintro e w3 ⟨rfl, Q2, C2⟩
  replace Q2 : Pair w3 (w1.heap.size + 1) w1.heap.size a0 a2 := by rw [stat_a a0 a2 h3] at Q2; exact Q2
  replace C2 := C1.trans (C2 w1.heap.size (by omega) (by omega))
  have R := P1.below C2 (by omega) (by omega)
  have D := B1.trans (C2.mono (by omega))
  clear C1 Q1 B1 C2 P1
  obtain ⟨-, r1, r2, -, -, -⟩ := R
  obtain ⟨-, q1, q2, -, -, -⟩ := Q2
  go_wp2
  go_ret
  exact ⟨rfl, D⟩

set_option maxHeartbeats 400000 in
theorem twice_b (a1 a2 : Int) (w : World) (h1 : 200 ≤ a2) (h3 : (a2 == 0) = false) :
    Calls Try.prog 4 #[.int .i64 0, .int .i64 a1, .int .i64 a2] w fun e w' => e = .returned (.bool true) ∧ Below w.heap.size w w' := by
  have P0 := pair_new w 0 a1
  have B0 := below_new w.heap.size w (.cells #[.map none, .int .i64 a1] 35) (.cells #[.iface 24 (.pointer (some ⟨w.heap.size, 0, none⟩)), .int .i64 0] 39) (Nat.le_refl _)
  go_enter Try.func4, Try.ntmps4
  go_wp2_with (first
    | (go_at_call 6; refine (new6 _ _).mono ?_; rintro e w' ⟨rfl, rfl⟩)
    | (go_at_call 7; refine (new7 _ _ _).mono ?_; rintro e w' ⟨rfl, rfl⟩))
  refine (wh8 _ _ _ _ _ _ P0).mono ?_
  rintro e w1 ⟨rfl, P1, B1⟩
  replace P1 : Pair w1 (w.heap.size + 1) w.heap.size a2 a2 := by rw [stat_b a2 h1] at P1; exact P1
  have hz : w.heap.size + 2 ≤ w1.heap.size := by have := (B1 0 (Nat.zero_le _) (Nat.zero_le _)).size; simp at this; omega
  replace B1 := B0.trans (B1 w.heap.size (by omega) (by omega))
  clear B0 P0
  have Q0 := pair_new w1 0 a1
  have C0 := below_new w1.heap.size w1 (.cells #[.map none, .int .i64 a1] 35) (.cells #[.iface 24 (.pointer (some ⟨w1.heap.size, 0, none⟩)), .int .i64 0] 39) (Nat.le_refl _)
  go_wp2_with (first
    | (go_at_call 6; refine (new6 _ _).mono ?_; rintro e w' ⟨rfl, rfl⟩)
    | (go_at_call 7; refine (new7 _ _ _).mono ?_; rintro e w' ⟨rfl, rfl⟩))
  refine (wh8 _ _ _ _ _ _ Q0).mono ?_
  rintro e w2 ⟨rfl, Q1, C1⟩
  replace Q1 : Pair w2 (w1.heap.size + 1) w1.heap.size a2 a2 := by rw [stat_b a2 h1] at Q1; exact Q1
  replace C1 := C0.trans (C1 w1.heap.size (by omega) (by omega))
  clear C0 Q0
  go_wp2_with fail
  refine (wh8 _ _ _ _ _ _ Q1).mono ?_
  rintro e w3 ⟨rfl, Q2, C2⟩
  replace Q2 : Pair w3 (w1.heap.size + 1) w1.heap.size a2 a2 := by rw [stat_a a2 a2 h3] at Q2; exact Q2
  replace C2 := C1.trans (C2 w1.heap.size (by omega) (by omega))
  have R := P1.below C2 (by omega) (by omega)
  have D := B1.trans (C2.mono (by omega))
  clear C1 Q1 B1 C2 P1
  obtain ⟨-, r1, r2, -, -, -⟩ := R
  obtain ⟨-, q1, q2, -, -, -⟩ := Q2
  go_wp2
  go_ret
  exact ⟨rfl, D⟩

set_option maxHeartbeats 400000 in
theorem twice_c (a1 a2 : Int) (w : World) (h1 : a2 < 200) :
    Calls Try.prog 4 #[.int .i64 0, .int .i64 a1, .int .i64 a2] w fun e w' => e = .returned (.bool true) ∧ Below w.heap.size w w' := by
  have P0 := pair_new w 0 a1
  have B0 := below_new w.heap.size w (.cells #[.map none, .int .i64 a1] 35) (.cells #[.iface 24 (.pointer (some ⟨w.heap.size, 0, none⟩)), .int .i64 0] 39) (Nat.le_refl _)
  go_enter Try.func4, Try.ntmps4
  go_wp2_with (first
    | (go_at_call 6; refine (new6 _ _).mono ?_; rintro e w' ⟨rfl, rfl⟩)
    | (go_at_call 7; refine (new7 _ _ _).mono ?_; rintro e w' ⟨rfl, rfl⟩))
  refine (wh8 _ _ _ _ _ _ P0).mono ?_
  rintro e w1 ⟨rfl, P1, B1⟩
  replace P1 : Pair w1 (w.heap.size + 1) w.heap.size 0 a2 := by rw [stat_c a2 h1] at P1; exact P1
  have hz : w.heap.size + 2 ≤ w1.heap.size := by have := (B1 0 (Nat.zero_le _) (Nat.zero_le _)).size; simp at this; omega
  replace B1 := B0.trans (B1 w.heap.size (by omega) (by omega))
  clear B0 P0
  have Q0 := pair_new w1 0 a1
  have C0 := below_new w1.heap.size w1 (.cells #[.map none, .int .i64 a1] 35) (.cells #[.iface 24 (.pointer (some ⟨w1.heap.size, 0, none⟩)), .int .i64 0] 39) (Nat.le_refl _)
  go_wp2_with (first
    | (go_at_call 6; refine (new6 _ _).mono ?_; rintro e w' ⟨rfl, rfl⟩)
    | (go_at_call 7; refine (new7 _ _ _).mono ?_; rintro e w' ⟨rfl, rfl⟩))
  refine (wh8 _ _ _ _ _ _ Q0).mono ?_
  rintro e w2 ⟨rfl, Q1, C1⟩
  replace Q1 : Pair w2 (w1.heap.size + 1) w1.heap.size 0 a2 := by rw [stat_c a2 h1] at Q1; exact Q1
  replace C1 := C0.trans (C1 w1.heap.size (by omega) (by omega))
  clear C0 Q0
  go_wp2_with fail
  refine (wh8 _ _ _ _ _ _ Q1).mono ?_
  rintro e w3 ⟨rfl, Q2, C2⟩
  replace Q2 : Pair w3 (w1.heap.size + 1) w1.heap.size 0 a2 := by rw [stat_c a2 h1] at Q2; exact Q2
  replace C2 := C1.trans (C2 w1.heap.size (by omega) (by omega))
  have R := P1.below C2 (by omega) (by omega)
  have D := B1.trans (C2.mono (by omega))
  clear C1 Q1 B1 C2 P1
  obtain ⟨-, r1, r2, -, -, -⟩ := R
  obtain ⟨-, q1, q2, -, -, -⟩ := Q2
  go_wp2
  go_ret
  exact ⟨rfl, D⟩

/-- The law, at every input. -/
theorem twice_any (a0 a1 a2 : Int) (w : World) :
    Calls Try.prog 4 #[.int .i64 a0, .int .i64 a1, .int .i64 a2] w fun e w' => e = .returned (.bool true) ∧ Below w.heap.size w w' := by
  by_cases h0 : a0 = 0
  · subst h0
    by_cases h2 : 200 ≤ a2
    · exact twice_b a1 a2 w h2 (beq_eq_false_iff_ne.2 (by omega))
    · exact twice_c a1 a2 w (by omega)
  · by_cases h1 : 200 ≤ a0
    · exact twice_a a0 a1 a2 w h1 (by rw [bne_iff_ne]; omega) (beq_eq_false_iff_ne.2 (by omega))
    · exact twice_out a0 a1 a2 w (by rw [bne_iff_ne]; omega) (by omega)
end Go.Proofs.Qxb6605789a
