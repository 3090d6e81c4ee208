import Derived.Test.Qxb6605687aDoorOps
import Derived.Lib.ItoaLen
import Derived.OwnWalk
import Derived.Deep.Heap
namespace Go.Proofs.Qxb6605687aDoor
open Go.RowKit

/-- The digits of u, none for 0. -/
def nd (u : Nat) : Nat := if u = 0 then 0 else Lib.nDigits u
theorem nd_zero : nd 0 = 0 := rfl
theorem nd_pos {u : Nat} (h : u ≠ 0) : nd u = Lib.nDigits u := if_neg h
theorem nd_step {u : Nat} (h : u ≠ 0) : nd u = nd (u / 10) + 1 := by
  rw [nd_pos h]
  by_cases hs : u < 10
  · rw [Lib.nDigits_small hs, show u / 10 = 0 by omega]; rfl
  · rw [Lib.nDigits_big hs, nd_pos (by omega)]
theorem nd_le (u : Nat) (h : u < 18446744073709551616) : nd u ≤ 20 := by
  by_cases h0 : u = 0
  · subst h0; decide
  · rw [nd_pos h0]; exact Lib.nDigits_le20 u h

theorem nd_mono {u v : Nat} (h : u ≤ v) : nd u ≤ nd v := by
  induction v using Nat.strongRecOn generalizing u with
  | _ v ih =>
    by_cases hu : u = 0
    · subst hu; exact Nat.zero_le _
    · rw [nd_step hu, nd_step (show v ≠ 0 by omega)]
      exact Nat.succ_le_succ (ih (v / 10) (by omega) (Nat.div_le_div_right h))
theorem bytes_set {X : Array Value} {j : Nat} {z : Int} {v : Value} (h : Bytes X.toList) (hv : v ∈ (X.setIfInBounds j (.int .u8 z)).toList) : ∃ z : Int, v = .int .u8 z := by
  rw [Array.toList_setIfInBounds] at hv
  rcases List.mem_or_eq_of_mem_set hv with e | e
  · exact h v e
  · exact ⟨z, e⟩

theorem itoa_len_neg {n : Int} (h : n < 0) : (Lib.itoa n).length = nd n.natAbs + 1 := by
  unfold Lib.itoa
  rw [if_pos h, List.length_cons, Lib.decDigits_length, nd_pos (by omega)]
theorem itoa_len_pos {n : Int} (h : 0 < n) : (Lib.itoa n).length = nd n.natAbs := by
  unfold Lib.itoa
  rw [if_neg (by omega), Lib.decDigits_length, nd_pos (by omega), show n.toNat = n.natAbs by omega]
theorem itoa_len_zero : (Lib.itoa 0).length = 1 := by
  unfold Lib.itoa
  rw [if_neg (by omega), Lib.decDigits_length]
  exact Lib.nDigits_small (by decide)

/-- WHAT zzItoa LEAVES: a slice of so many bytes, in memory of its own. -/
def Made (e : Ending) (w w' : World) (n : Nat) : Prop := ∃ a c, e = .returned (.slice a n c) ∧ Only w w' (fun _ => False)

set_option maxHeartbeats 1600000 in
set_option maxRecDepth 100000 in
theorem itoa_zero (w : World) : Calls Tryd.prog 13 #[.int .i64 0] w fun e w' => Made e w w' 1 := by
  have HO : Hid (Only w (w.alloc (.cells #[.int .u8 48] 5)) (fun _ => False)) := Only.of_alloc _ _
  go_enter Tryd.func13, Tryd.ntmps13
  go_wp2_with fail
  go_ret
  exact ⟨_, _, rfl, HO.out⟩

theorem Tryd.arrayLen63 : Tryd.prog.arrayLen 63 = 20 := by kernel_rfl
theorem Tryd.elem63 : Tryd.prog.elem 63 = 5 := by kernel_rfl
theorem Tryd.array63 : Tryd.prog.underlying 63 = some (.array (Tryd.prog.arrayLen 63) (Tryd.prog.elem 63)) := by kernel_rfl
theorem Tryd.size5 (w : World) : (sizeOf 5).run Tryd.prog w = .ok 1 w := by kernel_rfl

/-- tmp[j:]. -/
theorem slice_tmp (T j m : Nat) (hj : j + m = 20) (hm : 1 ≤ m) (w : World) : (Instr.sliceAt 63 (.pointer (some ⟨T, 0, none⟩)) (some (.int .i64 (j : Int))) none none).run Tryd.prog w = .ok (.slice (some ⟨T, j, none⟩) m m) w := by
  rw [run_sliceAt_array_l w 63 _ Tryd.array63 .i64 j (by omega) (by rw [Tryd.arrayLen63]; omega), Tryd.elem63, Tryd.size5, Tryd.arrayLen63]
  have e : 20 - j = m := by omega
  have e2 : ¬ 20 = j := by omega
  simp [slicedAt, Result.andThen, Addr.add, e, e2]
  exact fun h => h.symm

theorem drop_len {X : Array Value} {j m : Nat} (h : X.size = 20) (hj : j + m = 20) : (X.toList.drop j).length = m * 1 := by simp; omega
theorem drop_cells {w : World} {T j : Nat} {X : Array Value} (h : w.heap[T]? = some (.cells X 63 (0, 0))) : ∀ i u, (X.toList.drop j)[i]? = some u → w.cell? ((⟨T, j, none⟩ : Addr).add i) = some u := by
  intro i u hi
  have : ((⟨T, j, none⟩ : Addr).add i) = ⟨T, j + i, none⟩ := by simp [Addr.add]
  rw [this, cell_of_row w T (j + i) _ _ _ h]
  rw [List.getElem?_drop] at hi
  simpa using hi
theorem drop_one {X : Array Value} {j : Nat} (h : Bytes X.toList) : ∀ u ∈ X.toList.drop j, u.oneCell' = true := fun u hu => by
  obtain ⟨z, rfl⟩ := h u (List.mem_of_mem_drop hu)
  rfl

/-- tmp, at block T: 20 bytes; all that was there is as it was. -/
def Tmp (w wr : World) (T : Nat) : Prop := ∃ X : Array Value, X.size = 20 ∧ Bytes X.toList ∧ wr.heap[T]? = some (.cells X 63 (0, 0)) ∧ Only w wr (fun _ => False)

set_option maxHeartbeats 3200000 in
set_option maxRecDepth 100000 in
theorem itoa_pos (n : Nat) (h0 : 0 < n) (h1 : n ≤ 9223372036854775807) (w : World) : Calls Tryd.prog 13 #[.int .i64 n] w fun e w' => Made e w w' (nd n) := by
  have b0 : (0 : Int) < n := by omega
  have b1 : ¬ (n : Int) = 0 := by omega
  have b2 : ¬ (n : Int) < 0 := by omega
  go_enter Tryd.func13, Tryd.ntmps13
  go_wp2_with fail
  have hT0 : Tmp w (w.alloc (.cells (.replicate 20 (.int .u8 0)) 63)) w.heap.size :=
    ⟨.replicate 20 (.int .u8 0), by simp, fun u hu => ⟨0, by simpa using hu⟩, Deep.blk_alloc_new _ _, Only.of_alloc _ _⟩
  have hT : Tmp w (w.alloc (.cells #[.int .u8 0, .int .u8 0, .int .u8 0, .int .u8 0, .int .u8 0, .int .u8 0, .int .u8 0, .int .u8 0, .int .u8 0, .int .u8 0, .int .u8 0, .int .u8 0, .int .u8 0, .int .u8 0, .int .u8 0, .int .u8 0, .int .u8 0, .int .u8 0, .int .u8 0, .int .u8 0] 63)) w.heap.size := hT0
  clear hT0
  have hsz : Nat := w.heap.size
  generalize (w.alloc (.cells #[.int .u8 0, .int .u8 0, .int .u8 0, .int .u8 0, .int .u8 0, .int .u8 0, .int .u8 0, .int .u8 0, .int .u8 0, .int .u8 0, .int .u8 0, .int .u8 0, .int .u8 0, .int .u8 0, .int .u8 0, .int .u8 0, .int .u8 0, .int .u8 0, .int .u8 0, .int .u8 0] 63)) = wT at *
  have HT0 : Hid _ := hT
  clear hT hsz
  rename ((_ == _) = false) => hh
  clear hh
  have hn20 := nd_le n (by omega)
  go_loopg [4, 6] n (fun g u i wr => ∃ j : Nat, u = .int .u64 g ∧ i = .int .i64 j ∧ j = nd g + (20 - nd n) ∧ g ≤ n ∧ Tmp w wr w.heap.size)
  case atStart => exact ⟨20, rfl, rfl, by omega, Nat.le_refl _, HT0.out⟩
  case round =>
    obtain ⟨j, rfl, rfl, hj, hg, hTm⟩ := hrel
    have HJ : Hid (j = nd gk + (20 - nd n)) := hj
    have hg2 : gk ≤ 9223372036854775807 := by omega
    clear hj HT0
    by_cases hz : gk = 0
    · subst hz
      have hjl : j = 20 - nd n := by have := HJ.out; rw [nd_zero] at this; omega
      have hn1 : 1 ≤ nd n := by rw [nd_step (show n ≠ 0 by omega)]; omega
      obtain ⟨X, hX, hB, hXT, hXO⟩ := hTm
      have hlt : w.heap.size < wr.heap.size := (Array.getElem?_eq_some_iff.1 hXT).1
      have HB : Hid _ := hB
      have HXT : Hid _ := hXT
      have HXO : Hid _ := hXO
      clear HJ hB hXT hXO
      obtain ⟨i0, hi, hz0, hz1, hz2⟩ := info_parts Tryd.info5
      obtain ⟨wm, hmk, hom, hgm⟩ := run_make_own (P := Tryd.prog) wr (w.heap.size + 1) 24 5 i0 (.int .u8 0) 1 Tryd.underlying24 hi hz0 hz1 .i64 .i64 21 (by rw [hz2]; decide) (by decide) hlt
      have HO : Hid (Only w wm (fun _ => False)) := HXO.out.trans (Only.of_grown hgm) (fun _ _ h => by cases h)
      have HXM : Hid (wm.heap[w.heap.size]? = some (.cells X 63 (0, 0))) := ((Only.of_grown hgm).block _ hlt (by simp)).trans HXT.out
      have hle : w.heap.size < wm.heap.size := Nat.lt_of_lt_of_le hlt hgm.size
      have hmk' : (Instr.makeSlice 24 (.int .i64 0) (.int .i64 21)).run Tryd.prog wr = .ok (.slice (some ⟨wr.heap.size, 0, none⟩) 0 21) wm := hmk
      have hsl := slice_tmp w.heap.size j (nd n) (by omega) hn1
      have HJ : Hid (j + nd n = 20) := show j + nd n = 20 by omega
      clear hjl
      clear hmk hgm HXO HXT
      have HX : Hid (X.size = 20) := hX
      clear hX
      go_wp2_with (at_builtin; refine wpList_append_own_at _ rfl (.tmp 35) (.tmp 37) 24 rfl (w.heap.size + 1) 5 i0 (.int .u8 0) 1 1 Tryd.underlying24 hi hz0 hz1 hz2 rfl (by decide) _ 0 [] rfl hom ⟨w.heap.size, j, none⟩ (nd n) (nd n) (X.toList.drop j) rfl ?_ ?_ ?_ ?_ ?_ ?_ ?_)
      · exact drop_len HX.out HJ.out
      · exact drop_cells HXM.out
      · exact drop_one HB.out
      · unfold maxLen; omega
      · omega
      · omega
      intro v1 w1 ho1 hg1 _ _
      obtain ⟨a1, c1, hv⟩ := owns_shape ho1
      rw [hv] at ho1 ⊢
      have HO1 : Hid (Only w w1 (fun _ => False)) := HO.out.trans (Only.of_grown hg1) (fun k hk e => by simp [Value.ownBlock] at e; omega)
      clear ho1 hg1 hom
      go_wp2_with fail
      go_ret
      exact ⟨_, _, rfl, HO1.out⟩
    · obtain ⟨j', rfl⟩ : ∃ j', j = j' + 1 := ⟨j - 1, by have := HJ.out; rw [nd_step hz] at this; omega⟩
      have hj20 : j' < 20 := by
        have e := HJ.out
        have m : nd gk ≤ nd n := nd_mono hg
        omega
      obtain ⟨X, hX, hB, hXT, hXO⟩ := hTm
      obtain ⟨u, hu⟩ : ∃ u, X[j']? = some u := ⟨_, Array.getElem?_eq_getElem (by omega)⟩
      have c1 : wr.cell? ⟨w.heap.size, j', none⟩ = some u := by rw [cell_of_row wr _ j' _ _ _ hXT]; exact hu
      have f1 : wr.frozen? ⟨w.heap.size, j', none⟩ = false := frozen_of_row wr _ j' _ _ hXT
      have p1 : (0 : Int) < gk := by omega
      have HTm : Hid (∀ z : Int, Tmp w (wr.setCell ⟨w.heap.size, j', none⟩ (.int .u8 z)) w.heap.size) := fun z =>
        ⟨_, by simpa using hX, fun v hv => bytes_set hB hv, heap_setCell_same wr _ j' _ 63 (.int .u8 z) hXT, hXO.trans (Only.of_set wr ⟨w.heap.size, j', none⟩ (.int .u8 z)) (fun k hk e => by subst e; exact absurd hk (Nat.lt_irrefl _))⟩
      clear hXT hB hXO
      go_wp2_with fail
      go_roundg (gk / 10)
      case measure => omega
      case rel => exact ⟨j', by go_num, rfl, by have := HJ.out; rw [nd_step hz] at this; omega, by omega, HTm.out _⟩

theorem neg_neg_u64 (n : Nat) (h0 : 0 < n) (h1 : n ≤ 9223372036854775808) : IntKind.u64.wrap (-IntKind.u64.wrap (-(n : Int))) = (n : Int) := by
  rw [IntKind.wrap_u64, IntKind.wrap_u64]
  omega

set_option maxHeartbeats 3200000 in
set_option maxRecDepth 100000 in
theorem itoa_neg (n : Nat) (h0 : 0 < n) (h1 : n ≤ 9223372036854775808) (w : World) : Calls Tryd.prog 13 #[.int .i64 (-(n : Int))] w fun e w' => Made e w w' (nd n + 1) := by
  have b0 : -(n : Int) < 0 := by omega
  have b1 : ¬ -(n : Int) = 0 := by omega
  go_enter Tryd.func13, Tryd.ntmps13
  go_wp2_with fail
  rw [neg_neg_u64 n h0 h1]
  have hT0 : Tmp w (w.alloc (.cells (.replicate 20 (.int .u8 0)) 63)) w.heap.size :=
    ⟨.replicate 20 (.int .u8 0), by simp, fun u hu => ⟨0, by simpa using hu⟩, Deep.blk_alloc_new _ _, Only.of_alloc _ _⟩
  have hT : Tmp w (w.alloc (.cells #[.int .u8 0, .int .u8 0, .int .u8 0, .int .u8 0, .int .u8 0, .int .u8 0, .int .u8 0, .int .u8 0, .int .u8 0, .int .u8 0, .int .u8 0, .int .u8 0, .int .u8 0, .int .u8 0, .int .u8 0, .int .u8 0, .int .u8 0, .int .u8 0, .int .u8 0, .int .u8 0] 63)) w.heap.size := hT0
  clear hT0
  have hsz : Nat := w.heap.size
  generalize (w.alloc (.cells #[.int .u8 0, .int .u8 0, .int .u8 0, .int .u8 0, .int .u8 0, .int .u8 0, .int .u8 0, .int .u8 0, .int .u8 0, .int .u8 0, .int .u8 0, .int .u8 0, .int .u8 0, .int .u8 0, .int .u8 0, .int .u8 0, .int .u8 0, .int .u8 0, .int .u8 0, .int .u8 0] 63)) = wT at *
  have HT0 : Hid _ := hT
  clear hT hsz
  have hn20 := nd_le n (by omega)
  go_loopg [4, 6] n (fun g u i wr => ∃ j : Nat, u = .int .u64 g ∧ i = .int .i64 j ∧ j = nd g + (20 - nd n) ∧ g ≤ n ∧ Tmp w wr w.heap.size)
  case atStart => exact ⟨20, rfl, rfl, by omega, Nat.le_refl _, HT0.out⟩
  case round =>
    obtain ⟨j, rfl, rfl, hj, hg, hTm⟩ := hrel
    have HJ : Hid (j = nd gk + (20 - nd n)) := hj
    have hg2 : gk ≤ 9223372036854775808 := by omega
    clear hj HT0
    by_cases hz : gk = 0
    · subst hz
      have hjl : j = 20 - nd n := by have := HJ.out; rw [nd_zero] at this; omega
      have hn1 : 1 ≤ nd n := by rw [nd_step (show n ≠ 0 by omega)]; omega
      obtain ⟨X, hX, hB, hXT, hXO⟩ := hTm
      have hlt : w.heap.size < wr.heap.size := (Array.getElem?_eq_some_iff.1 hXT).1
      have HB : Hid _ := hB
      have HXT : Hid _ := hXT
      have HXO : Hid _ := hXO
      clear HJ hB hXT hXO
      obtain ⟨i0, hi, hz0, hz1, hz2⟩ := info_parts Tryd.info5
      obtain ⟨wm, hmk, hom, hgm⟩ := run_make_own (P := Tryd.prog) wr (w.heap.size + 1) 24 5 i0 (.int .u8 0) 1 Tryd.underlying24 hi hz0 hz1 .i64 .i64 21 (by rw [hz2]; decide) (by decide) hlt
      have HO : Hid (Only w wm (fun _ => False)) := HXO.out.trans (Only.of_grown hgm) (fun _ _ h => by cases h)
      have HXM : Hid (wm.heap[w.heap.size]? = some (.cells X 63 (0, 0))) := ((Only.of_grown hgm).block _ hlt (by simp)).trans HXT.out
      have hle : w.heap.size < wm.heap.size := Nat.lt_of_lt_of_le hlt hgm.size
      have hmk' : (Instr.makeSlice 24 (.int .i64 0) (.int .i64 21)).run Tryd.prog wr = .ok (.slice (some ⟨wr.heap.size, 0, none⟩) 0 21) wm := hmk
      have hsl := slice_tmp w.heap.size j (nd n) (by omega) hn1
      have HJ : Hid (j + nd n = 20) := show j + nd n = 20 by omega
      clear hjl
      clear hmk hgm HXO HXT
      have HX : Hid (X.size = 20) := hX
      clear hX
      go_wp2_with (at_builtin; refine wpList_append_own_at _ rfl (.tmp 32) (.tmp 33) 24 rfl (w.heap.size + 1) 5 i0 (.int .u8 0) 1 1 Tryd.underlying24 hi hz0 hz1 hz2 rfl (by decide) _ 0 [] rfl (hom.alloc _) ⟨wm.heap.size, 0, none⟩ 1 1 [.int .u8 45] rfl rfl (cell_one_new _ _ _) ?_ ?_ ?_ ?_ ?_)
      · intro u hu; simp at hu; subst hu; rfl
      · unfold maxLen; omega
      · omega
      · simp; omega
      intro v1 w1 ho1 hg1 _ hat1
      obtain ⟨a1, c1, hv⟩ := owns_shape ho1
      rw [hv] at ho1 hat1 ⊢
      have hO1 : Only wm w1 (fun k => (Value.slice (some ⟨wr.heap.size, 0, none⟩) 0 21).ownBlock = some k) := only_alloc (Only.of_grown hg1) (fun _ h => h)
      have HO1 : Hid (Only w w1 (fun _ => False)) := HO.out.trans hO1 (fun k hk e => by simp [Value.ownBlock] at e; omega)
      have HX1 : Hid (w1.heap[w.heap.size]? = some (.cells X 63 (0, 0))) := (hO1.block _ hle (by simp [Value.ownBlock]; omega)).trans HXM.out
      have hle1 : w.heap.size < w1.heap.size := Nat.lt_of_lt_of_le hle hO1.size
      clear hg1 hom hO1 HO HXM hle hat1 hv
      have ho1' : w1.ownsRow (w.heap.size + 1) 5 1 (.slice a1 1 c1) 1 [.int .u8 45] := ho1
      clear ho1
      go_wp2_with (at_builtin; refine wpList_append_own_at _ rfl (.tmp 35) (.tmp 37) 24 rfl (w.heap.size + 1) 5 i0 (.int .u8 0) 1 1 Tryd.underlying24 hi hz0 hz1 hz2 rfl (by decide) _ 1 [.int .u8 45] rfl ho1' ⟨w.heap.size, j, none⟩ (nd n) (nd n) (X.toList.drop j) rfl ?_ ?_ ?_ ?_ ?_ ?_ ?_)
      · exact drop_len HX.out HJ.out
      · exact drop_cells HX1.out
      · exact drop_one HB.out
      · unfold maxLen; omega
      · omega
      · omega
      intro v3 w3 ho3 hg3 _ _
      have hlt3 := ho1'.lt
      have HO3 : Hid (Only w w3 (fun _ => False)) := HO1.out.trans (Only.of_grown hg3) (fun k hk e => by have := (hlt3 k e).1; omega)
      have ho3' : w3.ownsRow (w.heap.size + 1) 5 1 v3 (nd n + 1) ([.int .u8 45] ++ X.toList.drop j) := Nat.add_comm 1 (nd n) ▸ ho3
      obtain ⟨a3, c3, hv3⟩ := owns_shape ho3'
      rw [hv3] at ho3 ⊢
      clear ho3 hg3 ho1' hlt3 ho3'
      go_wp2_with fail
      go_ret
      exact ⟨_, _, rfl, HO3.out⟩
    · obtain ⟨j', rfl⟩ : ∃ j', j = j' + 1 := ⟨j - 1, by have := HJ.out; rw [nd_step hz] at this; omega⟩
      have hj20 : j' < 20 := by
        have e := HJ.out
        have m : nd gk ≤ nd n := nd_mono hg
        omega
      obtain ⟨X, hX, hB, hXT, hXO⟩ := hTm
      obtain ⟨u, hu⟩ : ∃ u, X[j']? = some u := ⟨_, Array.getElem?_eq_getElem (by omega)⟩
      have c1 : wr.cell? ⟨w.heap.size, j', none⟩ = some u := by rw [cell_of_row wr _ j' _ _ _ hXT]; exact hu
      have f1 : wr.frozen? ⟨w.heap.size, j', none⟩ = false := frozen_of_row wr _ j' _ _ hXT
      have p1 : (0 : Int) < gk := by omega
      have HTm : Hid (∀ z : Int, Tmp w (wr.setCell ⟨w.heap.size, j', none⟩ (.int .u8 z)) w.heap.size) := fun z =>
        ⟨_, by simpa using hX, fun v hv => bytes_set hB hv, heap_setCell_same wr _ j' _ 63 (.int .u8 z) hXT, hXO.trans (Only.of_set wr ⟨w.heap.size, j', none⟩ (.int .u8 z)) (fun k hk e => by subst e; exact absurd hk (Nat.lt_irrefl _))⟩
      clear hXT hB hXO
      go_wp2_with fail
      go_roundg (gk / 10)
      case measure => omega
      case rel => exact ⟨j', by go_num, rfl, by have := HJ.out; rw [nd_step hz] at this; omega, by omega, HTm.out _⟩

/-- zzItoa: as many bytes as the numeral has. -/
theorem itoa_any (n : Int) (h0 : -9223372036854775808 ≤ n) (h1 : n ≤ 9223372036854775807) (w : World) : Calls Tryd.prog 13 #[.int .i64 n] w fun e w' => Made e w w' (Lib.itoa n).length := by
  rcases Int.lt_trichotomy n 0 with h | h | h
  · rw [itoa_len_neg h]
    obtain ⟨m, rfl⟩ : ∃ m : Nat, n = -(m : Int) := ⟨n.natAbs, by omega⟩
    rw [show (-(m : Int)).natAbs = m by omega]
    exact itoa_neg m (by omega) (by omega) w
  · subst h
    rw [itoa_len_zero]
    exact itoa_zero w
  · rw [itoa_len_pos h]
    obtain ⟨m, rfl⟩ : ∃ m : Nat, n = (m : Int) := ⟨n.toNat, by omega⟩
    rw [show (m : Int).natAbs = m by omega]
    exact itoa_pos m (by omega) (by omega) w
end Go.Proofs.Qxb6605687aDoor
