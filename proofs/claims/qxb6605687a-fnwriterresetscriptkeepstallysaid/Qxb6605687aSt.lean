import Derived.Test.Qxb6605687aZz
import Derived.Deep.OwnRows
namespace Go.Proofs.Qxb6605687a
open Go.RowKit

/-- Two slices do not lie in one row. -/
def Apart (v u : Value) : Prop := ∀ g, v.ownBlock = some g → ¬ u.ownBlock = some g

/-- WHAT HOLDS AT THE SCRIPT's LOOP: the Writer in block Wb holds xs, n bytes, and has done dn; 'since' holds the same bytes, in a row of its own; below Wb nothing has turned. -/
structure St (wc wr : World) (Wb : Nat) (a : Option Addr) (c : Nat) (a2 : Option Addr) (c2 n : Nat) (dn : Int) (xs : List Value) : Prop where
  wtr : Wtr wr Wb (.slice a n c) dn
  own : wr.ownsRow (Wb + 1) 5 1 (.slice a n c) n xs
  own2 : wr.ownsRow (Wb + 1) 5 1 (.slice a2 n c2) n xs
  apart : Apart (.slice a n c) (.slice a2 n c2)
  below : Below Wb wc wr
  bytes : Bytes xs
  dn0 : 0 ≤ dn

theorem st_start (wc : World) : St wc (wc.alloc (.cells #[.slice none 0 0, .bool false, .nilFunc, .nilIface, .int .i64 0] 31)) wc.heap.size none 0 none 0 0 0 [] :=
  ⟨Deep.blk_alloc_new _ _, World.ownsRow_nil _ _ _ _, World.ownsRow_nil _ _ _ _, fun g hg => by simp [Value.ownBlock] at hg, (Below.refl _ _).alloc (Nat.le_refl _) _, fun u hu => by simp at hu, Int.le_refl 0⟩

/-- Behind WriteSimple, ahead of zzSimple. -/
structure Mid (wc w1 : World) (Wb : Nat) (a1 : Option Addr) (c1 : Nat) (a2 : Option Addr) (c2 n n1 : Nat) (dn : Int) (xs xs1 : List Value) : Prop where
  wtr : Wtr w1 Wb (.slice a1 n1 c1) dn
  own : w1.ownsRow (Wb + 1) 5 1 (.slice a1 n1 c1) n1 xs1
  own2 : w1.ownsRow (Wb + 1) 5 1 (.slice a2 n c2) n xs
  apart : Apart (.slice a1 n1 c1) (.slice a2 n c2)
  below : Below Wb wc w1
  bytes : Bytes xs1
  dn0 : 0 ≤ dn

theorem mid_of {wc wr w1 : World} {Wb : Nat} {a : Option Addr} {c : Nat} {a2 : Option Addr} {c2 n n1 : Nat} {dn : Int} {xs xs1 : List Value} (h : St wc wr Wb a c a2 c2 n dn xs) (hA : After wr w1 Wb (.slice a n c) n1 dn xs1) (hx : Bytes xs1) :
    ∃ a1 c1, Mid wc w1 Wb a1 c1 a2 c2 n n1 dn xs xs1 := by
  obtain ⟨a1, c1, k1, k2, k3, k4⟩ := hA
  refine ⟨a1, c1, k1, k2, owns_only h.own2 k3 (fun g hg => ?_), fun g hg hg2 => ?_, h.below.trans (k3.below (Nat.le_of_lt h.wtr.lt) (fun g hg => ?_)), hx, h.dn0⟩
  · rintro (rfl | e)
    · exact own_ne h.own2 hg
    · exact h.apart g e hg
  · rcases k4 g hg with e | e
    · exact h.apart g e hg2
    · have := (h.own2.lt g hg2).2; omega
  · rcases hg with rfl | e
    · exact Nat.le_refl _
    · have := (h.own.lt g e).1; omega

theorem st_of {wc w1 w2 : World} {Wb : Nat} {a1 : Option Addr} {c1 : Nat} {a2 : Option Addr} {c2 n n1 : Nat} {dn : Int} {xs xs1 : List Value} {e : Ending} (h : Mid wc w1 Wb a1 c1 a2 c2 n n1 dn xs xs1) (hG : Grew e w1 w2 (Wb + 1) (.slice a2 n c2) n1 xs1) :
    ∃ a3 c3, e = .returned (.slice a3 n1 c3) ∧ St wc w2 Wb a1 c1 a3 c3 n1 dn xs1 := by
  obtain ⟨a3, c3, he, k2, k3, k4⟩ := hG
  refine ⟨a3, c3, he, h.wtr.only k3 (own_ne h.own2), owns_only h.own k3 (fun g hg hg2 => h.apart g hg hg2), k2, fun g hg hg2 => ?_, h.below.trans (k3.below (Nat.le_of_lt h.wtr.lt) (fun g hg => by have := (h.own2.lt g hg).1; omega)), h.bytes, h.dn0⟩
  rcases k4 g hg2 with e | e
  · exact h.apart g hg e
  · have := (h.own.lt g hg).2; omega

/-- Behind Reset, 'since' cut to nothing. -/
theorem st_reset {wc wr w1 : World} {Wb : Nat} {a : Option Addr} {c : Nat} {a2 : Option Addr} {c2 n : Nat} {dn d1 : Int} {xs : List Value} (h : St wc wr Wb a c a2 c2 n dn xs) (hA : After wr w1 Wb (.slice a n c) 0 d1 []) (hd : 0 ≤ d1) :
    ∃ a1 c1, St wc w1 Wb a1 c1 a2 c2 0 d1 [] := by
  obtain ⟨a1, c1, k1, k2, k3, k4⟩ := hA
  have o2 : w1.ownsRow (Wb + 1) 5 1 (.slice a2 n c2) n xs := owns_only h.own2 k3 (fun g hg => by
    rintro (rfl | e)
    · exact own_ne h.own2 hg
    · exact h.apart g e hg)
  refine ⟨a1, c1, k1, k2, owns_zero o2, fun g hg hg2 => ?_, h.below.trans (k3.below (Nat.le_of_lt h.wtr.lt) (fun g hg => ?_)), fun u hu => by simp at hu, hd⟩
  · have e2 : (Value.slice a2 n c2).ownBlock = some g := by cases a2 with
      | none => simp [Value.ownBlock] at hg2
      | some x => simpa [Value.ownBlock] using hg2
    rcases k4 g hg with e | e
    · exact h.apart g e e2
    · have := (h.own2.lt g e2).2; omega
  · rcases hg with rfl | e
    · exact Nat.le_refl _
    · have := (h.own.lt g e).1; omega

theorem St.drewN {wc wr : World} {Wb : Nat} {a : Option Addr} {c : Nat} {a2 : Option Addr} {c2 n : Nat} {dn : Int} {xs : List Value} (h : St wc wr Wb a c a2 c2 n dn xs) (k : Nat) : St wc (wr.drewN k) Wb a c a2 c2 n dn xs :=
  ⟨h.wtr, h.own, h.own2, h.apart, h.below.trans ⟨rfl, rfl, rfl, Nat.le_refl _, fun _ _ => rfl⟩, h.bytes, h.dn0⟩

/-- A row that is not empty has an address, and room for what it holds. -/
theorem own_some {w : World} {B : Nat} {a : Option Addr} {n c : Nat} {xs : List Value} (h : w.ownsRow B 5 1 (.slice a n c) n xs) (hn : 0 < n) : ∃ g, a = some ⟨g, 0, none⟩ ∧ n ≤ c ∧ c ≤ maxLen := by
  rcases h.2 with ⟨_, rfl⟩ | ⟨g, cap, cur, e, _, _, hnc, hcm, _⟩
  · omega
  · simp only [Value.slice.injEq] at e
    obtain ⟨rfl, _, rfl⟩ := e
    exact ⟨g, rfl, hnc, hcm⟩

/-- The cut of an owned row from place o on. -/
theorem rd_cut {w : World} {B g n c o : Nat} {xs : List Value} (h : w.ownsRow B 5 1 (.slice (some ⟨g, 0, none⟩) n c) n xs) (ho : o ≤ n) : Rd w (some ⟨g, o, none⟩) (n - o) (xs.drop o) := by
  have hl : xs.length = n := by simpa using h.1
  refine ⟨by rw [List.length_drop, hl], .inr ⟨g, o, rfl, fun i hi => ?_⟩⟩
  rw [h.cellAt (o + i) (by omega), List.getElem?_drop]
end Go.Proofs.Qxb6605687a
