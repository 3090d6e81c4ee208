import Derived.Test.Qxb6605789aRows
import Derived.WalkKit
import Derived.WalkSpells
import Derived.WalkLawsBesides
import Derived.Below
namespace Go.Proofs.Qxb6605789a
open Go.RowKit

theorem method_wh (a : Addr) (w : World) : (method 164 24 (.pointer (some a)) "WriteHeader").run Try.prog w = .ok (28, .pointer (some a)) w := by kernel_rfl

/-- What a statusWriter records: the first final status. -/
def stat (x s : Int) : Int := if x = 0 ∧ 200 ≤ s then s else x
/-- What 'answered' reports. -/
def answ (x : Int) : Int := if x = 0 then 200 else x

/-- Block b is a statusWriter over the probeWriter of block c; b has recorded x, c took y. -/
structure Pair (w : World) (b c : Nat) (x y : Int) : Prop where
  c0 : w.cell? ⟨b, 0, none⟩ = some (.iface 24 (.pointer (some ⟨c, 0, none⟩)))
  c1 : w.cell? ⟨b, 1, none⟩ = some (.int .i64 x)
  d1 : w.cell? ⟨c, 1, none⟩ = some (.int .i64 y)
  f1 : w.frozen? ⟨b, 1, none⟩ = false
  g1 : w.frozen? ⟨c, 1, none⟩ = false
  ne : b ≠ c

theorem wh28 (c : Nat) (y s : Int) (w : World) (hc : w.cell? ⟨c, 1, none⟩ = some (.int .i64 y)) (hf : w.frozen? ⟨c, 1, none⟩ = false) :
    Calls Try.prog 28 #[.pointer (some ⟨c, 0, none⟩), .int .i64 s] w fun e w' => e = .returned (.tuple #[]) ∧ w' = w.setCell ⟨c, 1, none⟩ (.int .i64 s) := by
  go_enter Try.func28, Try.ntmps28
  go_wp2
  go_end0
  exact ⟨rfl, rfl⟩

theorem probe9 (c : Nat) (y : Int) (w : World) (hc : w.cell? ⟨c, 1, none⟩ = some (.int .i64 y)) :
    Calls Try.prog 9 #[.pointer (some ⟨c, 0, none⟩)] w fun e w' => e = .returned (.int .i64 y) ∧ w = w' := by
  go_enter Try.func9, Try.ntmps9
  go_wp2
  go_ret
  exact ⟨rfl, rfl⟩

theorem status11 (c : Nat) (y : Int) (w : World) (hc : w.cell? ⟨c, 1, none⟩ = some (.int .i64 y)) :
    Calls Try.prog 11 #[.pointer (some ⟨c, 0, none⟩)] w fun e w' => e = .returned (.int .i64 y) ∧ w = w' := by
  go_enter Try.func11, Try.ntmps11
  go_wp2
  go_ret
  exact ⟨rfl, rfl⟩

theorem answered10 (c : Nat) (y : Int) (w : World) (hc : w.cell? ⟨c, 1, none⟩ = some (.int .i64 y)) :
    Calls Try.prog 10 #[.pointer (some ⟨c, 0, none⟩)] w fun e w' => e = .returned (.int .i64 (answ y)) ∧ w = w' := by
  unfold answ
  by_cases h : y = 0
  · subst h
    go_enter Try.func10, Try.ntmps10
    go_wp2
    go_ret
    exact ⟨rfl, rfl⟩
  · have h0 : (y == 0) = false := by simpa using h
    rw [if_neg h]
    go_enter Try.func10, Try.ntmps10
    go_wp2
    go_ret
    exact ⟨rfl, rfl⟩

theorem new6 (y : Int) (w : World) :
    Calls Try.prog 6 #[.map none, .int .i64 y] w fun e w' => e = .returned (.pointer (some ⟨w.heap.size, 0, none⟩)) ∧ w' = w.alloc (.cells #[.map none, .int .i64 y] 35) := by
  go_enter Try.func6, Try.ntmps6
  go_wp2
  go_ret
  exact ⟨rfl, rfl⟩

theorem new7 (c : Nat) (x : Int) (w : World) :
    Calls Try.prog 7 #[.pointer (some ⟨c, 0, none⟩), .int .i64 x] w fun e w' => e = .returned (.pointer (some ⟨w.heap.size, 0, none⟩)) ∧ w' = w.alloc (.cells #[.iface 24 (.pointer (some ⟨c, 0, none⟩)), .int .i64 x] 39) := by
  go_enter Try.func7, Try.ntmps7
  go_wp2
  go_ret
  exact ⟨rfl, rfl⟩

/-- The record stands, the probe takes s. -/
theorem pair_probe {w : World} {b c : Nat} {x y : Int} (s : Int) (h : Pair w b c x y) : Pair (w.setCell ⟨c, 1, none⟩ (.int .i64 s)) b c x s :=
  ⟨by rw [World.cell?_setCell_other _ _ _ _ (by intro e; injection e with e1 e2; exact h.ne e1.symm)]; exact h.c0, by rw [World.cell?_setCell_other _ _ _ _ (by intro e; injection e with e1 e2; exact h.ne e1.symm)]; exact h.c1,
    World.cell?_setCell_same _ _ _ h.d1, by rw [World.frozen?_setCell]; exact h.f1, by rw [World.frozen?_setCell]; exact h.g1, h.ne⟩
/-- The record is made. -/
theorem pair_stat {w : World} {b c : Nat} {x y : Int} (s : Int) (h : Pair w b c x y) : Pair (w.setCell ⟨b, 1, none⟩ (.int .i64 s)) b c s y :=
  ⟨by rw [World.cell?_setCell_other _ _ _ _ (by intro e; injection e with e1 e2; omega)]; exact h.c0, World.cell?_setCell_same _ _ _ h.c1,
    by rw [World.cell?_setCell_other _ _ _ _ (by intro e; injection e with e1 e2; exact h.ne e1)]; exact h.d1, by rw [World.frozen?_setCell]; exact h.f1, by rw [World.frozen?_setCell]; exact h.g1, h.ne⟩
theorem Pair.below {B : Nat} {w w' : World} {b c : Nat} {x y : Int} (h : Pair w b c x y) (hb : Below B w w') (h1 : b < B) (h2 : c < B) : Pair w' b c x y :=
  ⟨(hb.cell h1).trans h.c0, (hb.cell h1).trans h.c1, (hb.cell h2).trans h.d1, (hb.frozen h1).trans h.f1, (hb.frozen h2).trans h.g1, h.ne⟩
/-- A new pair. -/
theorem pair_new (w : World) (x y : Int) : Pair ((w.alloc (.cells #[.map none, .int .i64 y] 35)).alloc (.cells #[.iface 24 (.pointer (some ⟨w.heap.size, 0, none⟩)), .int .i64 x] 39)) (w.heap.size + 1) w.heap.size x y := by
  refine ⟨?_, ?_, ?_, ?_, ?_, by omega⟩ <;> simp [go_sem]
theorem below_new (B : Nat) (w : World) (o1 o2 : Obj) (h : B ≤ w.heap.size) : Below B w ((w.alloc o1).alloc o2) :=
  ((Below.refl _ _).alloc h _).alloc (by simp; omega) _

/-- One WriteHeader. -/
theorem wh8 (b c : Nat) (x y s : Int) (w : World) (h : Pair w b c x y) :
    Calls Try.prog 8 #[.pointer (some ⟨b, 0, none⟩), .int .i64 s] w fun e w' => e = .returned (.tuple #[]) ∧ Pair w' b c (stat x s) s ∧ ∀ B, B ≤ b → B ≤ c → Below B w w' := by
  have hm := method_wh
  unfold stat
  by_cases hx : x = 0
  · by_cases hs : 200 ≤ s
    · subst hx
      have P1 := pair_stat s h
      have P2 := pair_probe s P1
      have d1 := P1.d1
      have g1 := P1.g1
      have H2 := P2
      have c0 := h.c0
      have c1 := h.c1
      have f1 := h.f1
      have c0' := P1.c0
      rw [if_pos ⟨rfl, hs⟩]
      clear P1 P2
      go_enter Try.func8, Try.ntmps8
      go_wp2_with (go_at_call 28; refine (wh28 c y _ _ d1 g1).mono ?_; rintro e w' ⟨rfl, rfl⟩)
      go_end0
      exact ⟨rfl, H2, fun B h1 h2 => ((Below.refl _ _).setCell h1 _).setCell h2 _⟩
    · have hs' : decide (200 ≤ s) = false := by simpa using hs
      subst hx
      obtain ⟨c0, c1, d1, f1, g1, ne⟩ := h
      have H2 := pair_probe s (Pair.mk c0 c1 d1 f1 g1 ne)
      rw [if_neg (fun hc => hs hc.2)]
      go_enter Try.func8, Try.ntmps8
      go_wp2_with (go_at_call 28; refine (wh28 c y _ _ d1 g1).mono ?_; rintro e w' ⟨rfl, rfl⟩)
      go_end0
      exact ⟨rfl, H2, fun B h1 h2 => ((Below.refl _ _).setCell h2 _)⟩
  · have hx' : (x == 0) = false := by simpa using hx
    obtain ⟨c0, c1, d1, f1, g1, ne⟩ := h
    have H2 := pair_probe s (Pair.mk c0 c1 d1 f1 g1 ne)
    rw [if_neg (fun hc => hx hc.1)]
    go_enter Try.func8, Try.ntmps8
    go_wp2_with (go_at_call 28; refine (wh28 c y _ _ d1 g1).mono ?_; rintro e w' ⟨rfl, rfl⟩)
    go_end0
    exact ⟨rfl, H2, fun B h1 h2 => ((Below.refl _ _).setCell h2 _)⟩
end Go.Proofs.Qxb6605789a
