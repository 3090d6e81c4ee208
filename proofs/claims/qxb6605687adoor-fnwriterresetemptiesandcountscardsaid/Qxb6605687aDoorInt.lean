import Derived.Test.Qxb6605687aDoorOps
import Derived.Test.Qxb6605687aDoorRows
import Derived.Test.Qxb6605687aDoorShelf
import Derived.Lib.ItoaLen
namespace Go.Proofs.Qxb6605687aDoor
open Go.RowKit

/-- The name of the table of powers of ten, as the row has it. -/
def tabName : String := Rows.fnWriterResetEmptiesAndCountsRow.named.headD ""

/-- strconv.AppendInt at base 10, by the shelf's contract. -/
theorem appendInt_any (B n : Nat) (i : Int) (h0 : -9223372036854775808 ≤ i) (h1 : i ≤ 9223372036854775807) (sv : Value) (xs : List Value) (w : World) (hown : w.ownsRow B 5 1 sv n xs) (hBw : B ≤ w.heap.size) (hlim : n + 21 ≤ 140737488355328)
    (htab : Lib.TabBelow Tryd.prog B w tabName .u64 Lib.pow10Tab) :
    Calls Tryd.prog 39 #[sv, .int .i64 i, .int .i64 10] w fun e w' => ∃ v', e = .returned v' ∧ w'.ownsRow B 5 1 v' (n + (Lib.itoa i).length) (xs ++ Lib.byteCells (Lib.itoa i)) ∧ Below B w w' ∧ Lib.OthersKept 5 none w w' :=
  Any.strconv_AppendInt_10 Tryd.laysM176 B n i h0 h1 sv xs w hown hBw hlim htab

/-- What a call that writes to the Writer leaves, said more weakly: n bytes of replies, whatever they are; below the Writer nothing has turned. -/
def Wrote (w w' : World) (Wb : Nat) (n : Nat) (dn : Int) : Prop :=
  ∃ a c xs, Wtr w' Wb (.slice a n c) dn ∧ w'.ownsRow (Wb + 1) 5 1 (.slice a n c) n xs ∧ Below Wb w w'

theorem own_below {w : World} {Wb : Nat} {v : Value} {n : Nat} {xs : List Value} (h : w.ownsRow (Wb + 1) 5 1 v n xs) : ∀ k, (k = Wb ∨ v.ownBlock = some k) → Wb ≤ k := fun k hk => by
  rcases hk with rfl | e
  · exact Nat.le_refl _
  · have := (h.lt k e).1; omega

theorem After.below {w w' : World} {Wb : Nat} {v : Value} {n m : Nat} {dn : Int} {xs ys : List Value} (h : After w w' Wb v n dn xs) (ho : w.ownsRow (Wb + 1) 5 1 v m ys) (hlt : Wb < w.heap.size) : Below Wb w w' := by
  obtain ⟨a, c, _, _, k3, _⟩ := h
  exact k3.below (by omega) (own_below ho)

theorem After.wrote {w w' : World} {Wb : Nat} {v : Value} {n m : Nat} {dn : Int} {xs ys : List Value} (h : After w w' Wb v n dn xs) (ho : w.ownsRow (Wb + 1) 5 1 v m ys) (hlt : Wb < w.heap.size) : Wrote w w' Wb n dn := by
  have hb := h.below ho hlt
  obtain ⟨a, c, k1, k2, _, _⟩ := h
  exact ⟨a, c, xs, k1, k2, hb⟩

theorem Wrote.trans {w w1 w2 : World} {Wb : Nat} {n : Nat} {dn : Int} (h : Below Wb w w1) (k : Wrote w1 w2 Wb n dn) : Wrote w w2 Wb n dn := by
  obtain ⟨a, c, xs, k1, k2, k3⟩ := k
  exact ⟨a, c, xs, k1, k2, h.trans k3⟩

/-- A Writer's block stays where all below its row stays. -/
theorem Wtr.below {w w' : World} {Wb : Nat} {v : Value} {dn : Int} (h : Wtr w Wb v dn) (hb : Below (Wb + 1) w w') : Wtr w' Wb v dn := (hb.block Wb (by omega)).trans h

theorem below_weak {w w' : World} {B B' : Nat} (h : Below B w w') (hB : B' ≤ B) : Below B' w w' := ⟨h.os, h.tape, h.output, h.size, fun k hk => h.block k (by omega)⟩

set_option maxHeartbeats 1600000 in
set_option maxRecDepth 100000 in
/-- WriteInt. -/
theorem writeInt_any (Wb : Nat) (a : Option Addr) (n c : Nat) (dn : Int) (xs : List Value) (i : Int) (h0 : -9223372036854775808 ≤ i) (h1 : i ≤ 9223372036854775807) (w : World) (hW : Wtr w Wb (.slice a n c) dn) (ho : w.ownsRow (Wb + 1) 5 1 (.slice a n c) n xs) (hn : n ≤ 90000000)
    (htab : Lib.TabBelow Tryd.prog Wb w tabName .u64 Lib.pow10Tab) :
    Calls Tryd.prog 12 #[.pointer (some ⟨Wb, 0, none⟩), .int .i64 i] w fun e w' => e = .returned (.tuple #[]) ∧ Wrote w w' Wb (n + (Lib.itoa i).length + 3) dn := by
  obtain ⟨i0, hi, hz0, hz1, hz2⟩ := info_parts Tryd.info5
  have c0 := hW.c0
  have hlt := hW.lt
  have HT : Hid _ := htab
  have hit : (Lib.itoa i).length ≤ 21 := Lib.itoa_length_le i h0 h1
  clear htab
  go_enter Tryd.func12, Tryd.ntmps12
  go_wp2_with (at_builtin; refine wpList_append_own_at _ rfl (.tmp 8) (.tmp 9) 24 rfl (Wb + 1) 5 i0 (.int .u8 0) 1 1 Tryd.underlying24 hi hz0 hz1 hz2 rfl (by decide) _ n xs rfl (ho.alloc _) ⟨w.heap.size, 0, none⟩ 1 1 [.int .u8 58] rfl rfl (cell_one_new _ _ _) ?_ ?_ ?_ ?_ ?_)
  · intro u hu; simp at hu; subst hu; rfl
  · unfold maxLen; omega
  · omega
  · simp; omega
  intro v1 w1 ho1 hg1 _ hat1
  obtain ⟨a1, c1, hv⟩ := owns_shape ho1
  rw [hv] at ho1 hat1 ⊢
  have hO : Only w w1 (fun k => (Value.slice a n c).ownBlock = some k) := only_alloc (Only.of_grown hg1) (fun _ h => h)
  have hW1 := hW.only hO (own_ne ho)
  have hO2 := (hO.weaken (fun _ _ h => Or.inr h)).trans (Only.of_set w1 ⟨Wb, 0, none⟩ (.slice a1 (n + 1) c1)) (S := fun k => k = Wb ∨ (Value.slice a n c).ownBlock = some k) (fun k _ h => Or.inl h)
  have hW2 := hW1.set0 (.slice a1 (n + 1) c1)
  have ho2 := ownsRow_setCell_below ho1 (a := ⟨Wb, 0, none⟩) (by simp) (.slice a1 (n + 1) c1)
  have d0 := hW1.c0
  have f0 := hW1.f 0
  have HB2 : Hid (Below Wb w (w1.setCell ⟨Wb, 0, none⟩ (.slice a1 (n + 1) c1))) := hO2.below (by omega) (own_below ho)
  have HT2 : Hid (Lib.TabBelow Tryd.prog (Wb + 1) (w1.setCell ⟨Wb, 0, none⟩ (.slice a1 (n + 1) c1)) tabName .u64 Lib.pow10Tab) := fun w' hb => HT.out w' (HB2.out.trans (below_weak hb (by omega)))
  clear hW ho hO hW1 hg1 hat1 ho1 hO2 c0 hv hlt HT
  have hlt2 := hW2.lt
  have e0 := hW2.c0
  go_wp2_with fail
  refine (appendInt_any (Wb + 1) (n + 1) i h0 h1 _ _ _ ho2 (by omega) (by omega) HT2.out).mono ?_
  rintro e w3 ⟨v3, rfl, ho3, hB3, -⟩
  obtain ⟨a3, c3, hv3⟩ := owns_shape ho3
  subst hv3
  generalize hL : (Lib.itoa i).length = L at *
  have HL : Hid _ := hL
  clear hL
  generalize Lib.byteCells (Lib.itoa i) = cs at *
  generalize w1.setCell ⟨Wb, 0, none⟩ (.slice a1 (n + 1) c1) = w2 at *
  have hW3 := hW2.below hB3
  have d3 := hW3.c0
  have f3 := hW3.f 0
  have hW4 := hW3.set0 (.slice a3 (n + 1 + L) c3)
  have ho4 := ownsRow_setCell_below ho3 (a := ⟨Wb, 0, none⟩) (by simp) (.slice a3 (n + 1 + L) c3)
  have HB4 : Hid (Below Wb w (w3.setCell ⟨Wb, 0, none⟩ (.slice a3 (n + 1 + L) c3))) := (HB2.out.trans (below_weak hB3 (by omega))).trans ((Only.of_set w3 ⟨Wb, 0, none⟩ (.slice a3 (n + 1 + L) c3)).below (Nat.le_of_lt hW3.lt) (fun k hk => by subst hk; exact Nat.le_refl _))
  clear hB3 hW3 ho3 hlt2 e0 d0 f0 hW2 ho2 HB2 HT2
  go_wp2_with fail
  refine (endLine_any Wb a3 (n + 1 + L) c3 dn _ _ hW4 ho4 (by omega)).mono ?_
  rintro e w5 ⟨rfl, hA5⟩
  have HR : Hid (Wrote w w5 Wb (n + L + 3) dn) := by
    have e1 : n + 1 + L + 2 = n + L + 3 := by omega
    rw [e1] at hA5
    exact (hA5.wrote ho4 hW4.lt).trans HB4.out
  clear hA5 hW4 ho4
  go_wp2_with fail
  go_end0
  exact ⟨rfl, by rw [show (Lib.itoa i).length = L from HL.out]; exact HR.out⟩
end Go.Proofs.Qxb6605687aDoor
