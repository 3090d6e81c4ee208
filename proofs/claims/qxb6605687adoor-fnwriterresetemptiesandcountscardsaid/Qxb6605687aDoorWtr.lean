import Derived.Test.Qxb6605687aDoorBuf
namespace Go.Proofs.Qxb6605687aDoor
open Go.RowKit

/-- Of what was there, only the blocks of S may have turned. -/
structure Only (w w' : World) (S : Nat → Prop) : Prop where
  os : w'.os = w.os
  tape : w'.tape = w.tape
  output : w'.output = w.output
  size : w.heap.size ≤ w'.heap.size
  block : ∀ k, k < w.heap.size → ¬ S k → w'.heap[k]? = w.heap[k]?

theorem Only.refl (w : World) (S : Nat → Prop) : Only w w S := ⟨rfl, rfl, rfl, Nat.le_refl _, fun _ _ _ => rfl⟩
theorem Only.trans {a b c : World} {S S' : Nat → Prop} (h : Only a b S) (k : Only b c S') (hS : ∀ i, i < a.heap.size → S' i → S i) : Only a c S :=
  ⟨k.os.trans h.os, k.tape.trans h.tape, k.output.trans h.output, Nat.le_trans h.size k.size,
    fun i hi hn => (k.block i (Nat.lt_of_lt_of_le hi h.size) (fun hs => hn (hS i hi hs))).trans (h.block i hi hn)⟩
theorem Only.of_grown {w w' : World} {row : Option Nat} (h : w.grownBy w' row) : Only w w' (fun k => row = some k) :=
  ⟨h.os, h.tape, h.output, h.size, fun k hk hn => h.block k hk (fun e => hn e.symm)⟩
theorem Only.of_set (w : World) (a : Addr) (v : Value) : Only w (w.setCell a v) (fun k => k = a.block) :=
  ⟨rfl, rfl, rfl, by simp [World.setCell], fun k _ hn => Below.heap_setCell w a v k hn⟩
theorem Only.of_alloc (w : World) (o : Obj) : Only w (w.alloc o) (fun _ => False) :=
  ⟨rfl, rfl, rfl, by simp, fun k hk _ => Below.heap_alloc w o k hk⟩
theorem Only.of_drewN (w : World) (n : Nat) : Only w (w.drewN n) (fun _ => False) := ⟨rfl, rfl, rfl, Nat.le_refl _, fun _ _ _ => rfl⟩
theorem Only.weaken {w w' : World} {S S' : Nat → Prop} (h : Only w w' S) (hS : ∀ i, i < w.heap.size → S i → S' i) : Only w w' S' :=
  ⟨h.os, h.tape, h.output, h.size, fun k hk hn => h.block k hk (fun hs => hn (hS k hk hs))⟩
theorem Only.below {w w' : World} {S : Nat → Prop} {B : Nat} (h : Only w w' S) (hB : B ≤ w.heap.size) (hS : ∀ k, S k → B ≤ k) : Below B w w' :=
  ⟨h.os, h.tape, h.output, h.size, fun k hk => h.block k (by omega) (fun hs => by have := hS k hs; omega)⟩

/-- The bytes that a slice owns stay, where its block is none of S. -/
theorem owns_only {w w' : World} {S : Nat → Prop} {B : Nat} {e : TypeId} {v : Value} {n : Nat} {xs : List Value} (h : w.ownsRow B e 1 v n xs) (ho : Only w w' S) (hv : ∀ k, v.ownBlock = some k → ¬ S k) : w'.ownsRow B e 1 v n xs := by
  refine ⟨h.1, ?_⟩
  rcases h.2 with hn | ⟨g, cap, cur, rfl, hb, hgg, rest⟩
  · exact .inl hn
  · refine .inr ⟨g, cap, cur, rfl, hb, ?_, rest⟩
    rw [ho.block g (Array.getElem?_eq_some_iff.1 hgg).1 (hv g rfl)]
    exact hgg

/-- A value that owns is a slice of that length. -/
theorem owns_shape {w : World} {B : Nat} {e : TypeId} {v : Value} {n : Nat} {xs : List Value} (h : w.ownsRow B e 1 v n xs) : ∃ a c, v = .slice a n c := by
  rcases h.2 with ⟨rfl, rfl⟩ | ⟨g, cap, cur, rfl, _⟩
  · exact ⟨none, 0, rfl⟩
  · exact ⟨_, cap, rfl⟩

/-- Block Wb is a Writer without a destination: its replies v, done dn. -/
def Wtr (w : World) (Wb : Nat) (v : Value) (dn : Int) : Prop := w.heap[Wb]? = some (.cells #[v, .bool false, .nilFunc, .nilIface, .int .i64 dn] 29 (0, 0))

theorem Wtr.lt {w : World} {Wb : Nat} {v : Value} {dn : Int} (h : Wtr w Wb v dn) : Wb < w.heap.size := (Array.getElem?_eq_some_iff.1 h).1
theorem Wtr.c0 {w : World} {Wb : Nat} {v : Value} {dn : Int} (h : Wtr w Wb v dn) : w.cell? ⟨Wb, 0, none⟩ = some v := by rw [cell_of_row w Wb 0 _ _ _ h]; rfl
theorem Wtr.c2 {w : World} {Wb : Nat} {v : Value} {dn : Int} (h : Wtr w Wb v dn) : w.cell? ⟨Wb, 2, none⟩ = some .nilFunc := by rw [cell_of_row w Wb 2 _ _ _ h]; rfl
theorem Wtr.c4 {w : World} {Wb : Nat} {v : Value} {dn : Int} (h : Wtr w Wb v dn) : w.cell? ⟨Wb, 4, none⟩ = some (.int .i64 dn) := by rw [cell_of_row w Wb 4 _ _ _ h]; rfl
theorem Wtr.f {w : World} {Wb : Nat} {v : Value} {dn : Int} (h : Wtr w Wb v dn) (j : Nat) : w.frozen? ⟨Wb, j, none⟩ = false := frozen_of_row w Wb j _ _ h
theorem Wtr.set0 {w : World} {Wb : Nat} {v : Value} {dn : Int} (h : Wtr w Wb v dn) (u : Value) : Wtr (w.setCell ⟨Wb, 0, none⟩ u) Wb u dn := heap_setCell_same w Wb 0 _ 29 u h
theorem Wtr.set4 {w : World} {Wb : Nat} {v : Value} {dn : Int} (h : Wtr w Wb v dn) (d : Int) : Wtr (w.setCell ⟨Wb, 4, none⟩ (.int .i64 d)) Wb v d := heap_setCell_same w Wb 4 _ 29 (.int .i64 d) h
theorem Wtr.only {w w' : World} {S : Nat → Prop} {Wb : Nat} {v : Value} {dn : Int} (h : Wtr w Wb v dn) (ho : Only w w' S) (hS : ¬ S Wb) : Wtr w' Wb v dn := (ho.block Wb h.lt hS).trans h

/-- The new slice lies in the old one's row, or in a block from k on, or nowhere. -/
def Lies (v' v : Value) (k : Nat) : Prop := ∀ g, v'.ownBlock = some g → v.ownBlock = some g ∨ k ≤ g
theorem lies_of {v' v : Value} {m k : Nat} (h : v'.ownBlock = v.ownBlock ∨ v'.ownBlock = some m) (hk : k ≤ m) : Lies v' v k := fun g hg => by
  rcases h with e | e
  · exact .inl (e ▸ hg)
  · rw [e] at hg; injection hg with hg; exact .inr (by omega)
theorem Lies.trans {v v1 v2 : Value} {k k1 : Nat} (h1 : Lies v1 v k) (h2 : Lies v2 v1 k1) (hk : k ≤ k1) : Lies v2 v k := fun g hg => by
  rcases h2 g hg with e | e
  · exact h1 g e
  · exact .inr (by omega)

/-- WHAT A CALL THAT WRITES TO THE WRITER LEAVES: its replies xs, n of them, in the old row or a new one; of old memory only the Writer's own block and its row have turned. -/
def After (w w' : World) (Wb : Nat) (v : Value) (n : Nat) (dn : Int) (xs : List Value) : Prop :=
  ∃ a c, Wtr w' Wb (.slice a n c) dn ∧ w'.ownsRow (Wb + 1) 5 1 (.slice a n c) n xs ∧ Only w w' (fun k => k = Wb ∨ v.ownBlock = some k) ∧
    Lies (.slice a n c) v w.heap.size

theorem Tryd.info5 : (Tryd.prog.info? 5).map (fun i => (i.zero, i.size, i.bytes)) = some (some (.int .u8 0), 1, 1) := by kernel_rfl

theorem own_ne {w : World} {Wb : Nat} {v : Value} {n : Nat} {xs : List Value} (h : w.ownsRow (Wb + 1) 5 1 v n xs) : ¬ v.ownBlock = some Wb := fun e => by have := (h.lt Wb e).1; omega

/-- An append and the store of what came back. -/
theorem after_store {w w1 : World} {Wb : Nat} {v : Value} {dn : Int} {n n1 : Nat} {xs xs1 : List Value} {a1 : Option Addr} {c1 : Nat} (hW : Wtr w Wb v dn) (ho : w.ownsRow (Wb + 1) 5 1 v n xs) (hg : Only w w1 (fun k => v.ownBlock = some k))
    (ho1 : w1.ownsRow (Wb + 1) 5 1 (.slice a1 n1 c1) n1 xs1) (hat : Lies (.slice a1 n1 c1) v w.heap.size) :
    After w (w1.setCell ⟨Wb, 0, none⟩ (.slice a1 n1 c1)) Wb v n1 dn xs1 :=
  ⟨a1, c1, (hW.only hg (own_ne ho)).set0 _, ownsRow_setCell_below ho1 (by simp) _, (hg.weaken (fun _ _ h => .inr h)).trans (Only.of_set _ _ _) (fun k _ h => .inl h), hat⟩

theorem After.trans {w w1 w2 : World} {Wb : Nat} {v : Value} {n1 n2 : Nat} {d2 : Int} {xs2 : List Value} {a : Option Addr} {c : Nat}
    (h1 : Only w w1 (fun k => k = Wb ∨ v.ownBlock = some k)) (hat : Lies (.slice a n1 c) v w.heap.size)
    (h : After w1 w2 Wb (.slice a n1 c) n2 d2 xs2) : After w w2 Wb v n2 d2 xs2 := by
  obtain ⟨a2, c2, k1, k2, k3, k4⟩ := h
  refine ⟨a2, c2, k1, k2, h1.trans k3 (fun i hi hs => ?_), hat.trans k4 h1.size⟩
  rcases hs with rfl | hs
  · exact .inl rfl
  · rcases hat i hs with e | e
    · exact .inr e
    · omega

theorem neq_nilFunc (w : World) : (binOp .neq 25 .nilFunc .nilFunc).run Tryd.prog w = .ok (.bool false) w := by kernel_rfl

set_option maxHeartbeats 1600000 in
set_option maxRecDepth 100000 in
/-- endLine: CR LF. -/
theorem endLine_any (Wb : Nat) (a : Option Addr) (n c : Nat) (dn : Int) (xs : List Value) (w : World) (hW : Wtr w Wb (.slice a n c) dn) (ho : w.ownsRow (Wb + 1) 5 1 (.slice a n c) n xs) (hn : n ≤ 100000000) :
    Calls Tryd.prog 38 #[.pointer (some ⟨Wb, 0, none⟩)] w fun e w' => e = .returned (.tuple #[]) ∧ After w w' Wb (.slice a n c) (n + 2) dn (xs ++ [.int .u8 13, .int .u8 10]) := by
  obtain ⟨i0, hi, hz0, hz1, hz2⟩ := info_parts Tryd.info5
  have c0 := hW.c0
  have hlt := hW.lt
  go_enter Tryd.func38, Tryd.ntmps38
  go_wp2_with (at_builtin; refine wpList_append_string_at _ rfl _ _ 24 9 rfl (Wb + 1) 5 i0 Tryd.underlying24 Tryd.underlying9 hi hz0 hz1 hz2 _ n xs rfl ho ⟨#[13, 10]⟩ rfl ?_ ?_ ?_)
  · show n + 2 ≤ _; omega
  · omega
  intro v1 w1 ho1 hg1 hat1
  obtain ⟨a1, c1, hv⟩ := owns_shape ho1
  rw [hv] at ho1 hat1 ⊢
  have hO := Only.of_grown hg1
  have hW1 := hW.only hO (own_ne ho)
  have A1 := after_store hW ho hO ho1 (lies_of hat1 (Nat.le_refl _))
  have d0 := hW1.c0
  have f0 := hW1.f 0
  have e2 : (w1.setCell ⟨Wb, 0, none⟩ (.slice a1 (n + 2) c1)).cell? ⟨Wb, 2, none⟩ = some .nilFunc := (hW1.set0 _).c2
  have hnf := neq_nilFunc
  have HA : Hid (After w (w1.setCell ⟨Wb, 0, none⟩ (.slice a1 (n + 2) c1)) Wb (.slice a n c) (n + 2) dn (xs ++ [.int .u8 13, .int .u8 10])) := A1
  clear A1 hW hW1 ho ho1 hO hg1 hat1 c0 hv
  go_wp2_with fail
  go_end0
  exact ⟨rfl, HA.out⟩

/-- The simple-string reply of s: plus, s, CR LF. -/
def reply (s : ByteArray) : List Value := [.int .u8 43] ++ Lib.strCells s ++ [.int .u8 13, .int .u8 10]

theorem only_alloc {w w1 : World} {o : Obj} {S : Nat → Prop} (h : Only (w.alloc o) w1 S) (hS : ∀ k, S k → S k) : Only w w1 S :=
  ((Only.of_alloc w o).weaken (fun _ _ h => h.elim)).trans h (fun k _ => hS k)

set_option maxHeartbeats 1600000 in
set_option maxRecDepth 100000 in
/-- WriteSimple. -/
theorem writeSimple_any (Wb : Nat) (a : Option Addr) (n c : Nat) (dn : Int) (xs : List Value) (s : ByteArray) (w : World) (hW : Wtr w Wb (.slice a n c) dn) (ho : w.ownsRow (Wb + 1) 5 1 (.slice a n c) n xs) (hn : n + s.size ≤ 90000000) :
    Calls Tryd.prog 11 #[.pointer (some ⟨Wb, 0, none⟩), .string s] w fun e w' => e = .returned (.tuple #[]) ∧ After w w' Wb (.slice a n c) (n + s.size + 3) dn (xs ++ reply s) := by
  obtain ⟨i0, hi, hz0, hz1, hz2⟩ := info_parts Tryd.info5
  have c0 := hW.c0
  have hlt := hW.lt
  go_enter Tryd.func11, Tryd.ntmps11
  go_wp2_with (at_builtin; refine wpList_append_own_at _ rfl (.tmp 8) (.tmp 9) 24 rfl (Wb + 1) 5 i0 (.int .u8 0) 1 1 Tryd.underlying24 hi hz0 hz1 hz2 rfl (by decide) _ n xs rfl (ho.alloc _) ⟨w.heap.size, 0, none⟩ 1 1 [.int .u8 43] rfl rfl (cell_one_new _ _ _) ?_ ?_ ?_ ?_ ?_)
  · intro u hu; simp at hu; subst hu; rfl
  · unfold maxLen; omega
  · omega
  · simp; omega
  intro v1 w1 ho1 hg1 _ hat1
  obtain ⟨a1, c1, hv⟩ := owns_shape ho1
  rw [hv] at ho1 hat1 ⊢
  have hO : Only w w1 (fun k => (Value.slice a n c).ownBlock = some k) := only_alloc (Only.of_grown hg1) (fun _ h => h)
  have hW1 := hW.only hO (own_ne ho)
  have hA1 : Lies _ _ w.heap.size := lies_of hat1 (by omega)
  have hO2 := (hO.weaken (fun _ _ h => Or.inr h)).trans (Only.of_set w1 ⟨Wb, 0, none⟩ (.slice a1 (n + 1) c1)) (S := fun k => k = Wb ∨ (Value.slice a n c).ownBlock = some k) (fun k _ h => Or.inl h)
  have hW2 := hW1.set0 (.slice a1 (n + 1) c1)
  have ho2 := ownsRow_setCell_below ho1 (a := ⟨Wb, 0, none⟩) (by simp) (.slice a1 (n + 1) c1)
  have d0 := hW1.c0
  have f0 := hW1.f 0
  have HO2 : Hid _ := hO2
  have HA1 : Hid _ := hA1
  clear hW ho hO hW1 hg1 hat1 ho1 hA1 hO2 c0 hv hlt
  have hlt2 := hW2.lt
  have e0 := hW2.c0
  go_wp2_with (at_builtin; refine wpList_append_string_at _ rfl (.tmp 17) (.tmp 18) 24 9 rfl (Wb + 1) 5 i0 Tryd.underlying24 Tryd.underlying9 hi hz0 hz1 hz2 _ (n + 1) _ rfl ho2 s rfl ?_ ?_ ?_)
  · omega
  · simp at hlt2 ⊢; omega
  intro v3 w3 ho3 hg3 hat3
  obtain ⟨a3, c3, hv3⟩ := owns_shape ho3
  rw [hv3] at ho3 hat3 ⊢
  have hsz : (w1.setCell ⟨Wb, 0, none⟩ (.slice a1 (n + 1) c1)).heap.size ≤ w1.heap.size := by simp [World.setCell]
  generalize w1.setCell ⟨Wb, 0, none⟩ (.slice a1 (n + 1) c1) = w2 at *
  have hO3 := Only.of_grown hg3
  have hW3 := hW2.only hO3 (own_ne ho2)
  have d3 := hW3.c0
  have f3 := hW3.f 0
  have hW4 := hW3.set0 (.slice a3 (n + 1 + s.size) c3)
  have ho4 := ownsRow_setCell_below ho3 (a := ⟨Wb, 0, none⟩) (by simp) (.slice a3 (n + 1 + s.size) c3)
  have HO4 : Hid _ := (hO3.weaken (fun _ _ h => Or.inr h)).trans (Only.of_set w3 ⟨Wb, 0, none⟩ (.slice a3 (n + 1 + s.size) c3)) (S := fun k => k = Wb ∨ (Value.slice a1 (n + 1) c1).ownBlock = some k) (fun k _ h => Or.inl h)
  have HA3 : Hid _ := lies_of hat3 hsz
  clear hsz hv3 hat3 hg3 hO3 hW3 ho3 hlt2 e0 d0 f0 hW2 ho2
  go_wp2_with (go_at_call 38; refine (endLine_any Wb a3 (n + 1 + s.size) c3 dn _ _ hW4 ho4 (by omega)).mono ?_; rintro e w5 ⟨rfl, hA5⟩)
  go_end0
  have R := After.trans HO2.out HA1.out (After.trans HO4.out HA3.out hA5)
  refine ⟨rfl, ?_⟩
  have e1 : n + 1 + s.size + 2 = n + s.size + 3 := by omega
  have e2 : xs ++ Value.int .u8 43 :: Lib.strCells s ++ [.int .u8 13, .int .u8 10] = xs ++ reply s := by unfold reply; simp
  rw [e1, e2] at R
  exact R
end Go.Proofs.Qxb6605687aDoor
