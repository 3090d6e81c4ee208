import Derived.Test.Qxb6605606aCopy
namespace Go.Proofs.Qxb6605606a
open Go.RowKit

/-- A string of given bytes. -/
def strOf (d : List UInt8) : ByteArray := ⟨d.toArray⟩
theorem dat_strOf (d : List UInt8) : dat (strOf d) = d := by simp [dat, strOf]
theorem StrIs.eq {e : Ending} {d : List UInt8} (h : StrIs e d) : e = .returned (.string (strOf d)) := by
  obtain ⟨r, rfl, hr⟩ := h
  rw [← hr]
  unfold strOf dat
  rw [Lib.mk_data]

theorem Arr.below {B : Nat} {w w' : World} {xs : Array Value} {R : Nat → List ByteArray} (h : Arr w xs R) (hb : Below B w w') (hB : w.heap.size ≤ B) : Arr w' xs R :=
  ⟨h.1, fun c hc => by obtain ⟨v, h1, h2⟩ := h.2 c hc; exact ⟨v, h1, h2.below hb hB⟩⟩

theorem info23 (xs : Array Value) (h : xs.size = 128) : (Try.prog.info? 23).map (·.size) = some xs.size := by rw [h]; kernel_rfl

/-- longestMarkIn, its answer written out. -/
theorem longest_q (v : Value) (l : List ByteArray) (s : ByteArray) (w : World) (h : StrRow w v l) (hs : s.size ≤ 9223372036854775807) :
    Calls Try.prog 11 #[v, .string s] w fun e w' => e = .returned (.string (strOf (Pm.longest (dat s) (dats l)))) ∧ ∃ n, w' = w.drewN n :=
  (longest_any v l s w h hs).mono fun _ _ h => ⟨h.1.eq, h.2⟩

theorem zzmatch_q (T : Nat) (s : ByteArray) (R : Nat → List ByteArray) (w : World) (ht : Tab w T R) :
    Calls Try.prog 12 #[.pointer (some ⟨T, 0, none⟩), .string s] w fun e w' => e = .returned (.string (strOf (matched R s))) ∧ ∃ n, w' = w.drewN n :=
  (zzmatch_any T s R w ht).mono fun _ _ h => ⟨h.1.eq, h.2⟩

theorem matched_row (R : Nat → List ByteArray) (s : ByteArray) (h0 : 0 < s.size) (h : (s[0]'h0).toNat < 128) : matched R s = Pm.firstHit (dat s) (dats (R (s[0]'h0).toNat)) := by
  obtain ⟨r, hr⟩ := dat_cons s h0
  unfold matched; rw [hr]; simp [h]
theorem matched_high (R : Nat → List ByteArray) (s : ByteArray) (h0 : 0 < s.size) (h : 128 ≤ (s[0]'h0).toNat) : matched R s = [] := by
  obtain ⟨r, hr⟩ := dat_cons s h0
  unfold matched; rw [hr]; simp; omega

set_option maxHeartbeats 1600000 in
set_option maxRecDepth 100000 in
theorem long_out (xs : Array Value) (s : ByteArray) (R : Nat → List ByteArray) (w : World) (h : Arr w xs R) (hs : s.size ≤ 9223372036854775807) (hb : 1048576 < s.size) :
    Calls Try.prog 3 #[.agg xs, .string s] w fun e w' => e = .returned (.bool true) ∧ Below w.heap.size w w' := by
  have B1 : Below w.heap.size w (w.alloc (.cells xs 23)) := (Below.refl _ _).alloc (Nat.le_refl _) _
  have hg : (w.alloc (.cells xs 23)).heap[w.heap.size]? = some (.cells xs 23 (0, 0)) := Deep.blk_alloc_new _ _
  have A1 := h.below B1 (Nat.le_refl _)
  have hx := info23 xs h.1
  have T1 := h.box
  have B2 : Below w.heap.size w ((w.alloc (.cells xs 23)).alloc (.cells xs 23)) := B1.alloc (by simp) _
  have T2 : Tab ((w.alloc (.cells xs 23)).alloc (.cells xs 23)) w.heap.size R := T1.below ((Below.refl _ _).alloc (Nat.le_refl _) _) (Nat.le_refl _)
  clear T1 h
  go_enter Try.func3, Try.ntmps3
  go_wp2_with (first
    | (refine wpList_load_row rfl 23 _ rfl w.heap.size rfl 23 xs (0, 0) _ hg Try.underlying23 rfl hx ?_)
    | (go_at_call 7; refine (zz7_any xs s R _ A1 hs).mono ?_; rintro e w2 ⟨⟨r, rfl⟩, rfl⟩; cases r))
  all_goals go_ret
  all_goals exact ⟨rfl, B2⟩

set_option maxHeartbeats 1600000 in
set_option maxRecDepth 100000 in
theorem long_row (xs : Array Value) (s : ByteArray) (R : Nat → List ByteArray) (w : World) (h : Arr w xs R) (hs : s.size ≤ 1048576) (h0 : 0 < s.size) (x : Nat) (hx0 : (s[0]'h0).toNat = x) (hx1 : x < 128) :
    Calls Try.prog 3 #[.agg xs, .string s] w fun e w' => e = .returned (.bool true) ∧ Below w.heap.size w w' := by
  have B1 : Below w.heap.size w (w.alloc (.cells xs 23)) := (Below.refl _ _).alloc (Nat.le_refl _) _
  have hg : (w.alloc (.cells xs 23)).heap[w.heap.size]? = some (.cells xs 23 (0, 0)) := Deep.blk_alloc_new _ _
  have A1 := h.below B1 (Nat.le_refl _)
  have hx := info23 xs h.1
  have T1 := h.box
  have B2 : Below w.heap.size w ((w.alloc (.cells xs 23)).alloc (.cells xs 23)) := B1.alloc (by simp) _
  have T2 : Tab ((w.alloc (.cells xs 23)).alloc (.cells xs 23)) w.heap.size R := T1.below ((Below.refl _ _).alloc (Nat.le_refl _) _) (Nat.le_refl _)
  clear T1 h
  have HX : Hid ((s[0]'h0).toNat = x) := hx0
  clear hx0
  have h0i : (0 : Int) < (s.size : Int) := by omega
  go_enter Try.func3, Try.ntmps3
  go_wp2_with (first
    | (refine wpList_load_row rfl 23 _ rfl w.heap.size rfl 23 xs (0, 0) _ hg Try.underlying23 rfl hx ?_)
    | (go_at_call 7; refine (zz7_any xs s R _ A1 (by omega)).mono ?_; rintro e w2 ⟨⟨r, rfl⟩, rfl⟩; cases r))
  · go_ret
    exact ⟨rfl, B2⟩
  clear hg A1 B1
  generalize (w.alloc (.cells xs 23)).alloc (.cells xs 23) = w2 at B2 T2 ⊢
  generalize hT : w.heap.size = T at T2 ⊢
  have HT : Hid (w.heap.size = T) := hT
  clear hT
  refine (bytesOK_any T _ R w2 T2 (by omega) (by omega)).mono ?_
  rintro e w' ⟨⟨r, rfl, hr⟩, rfl⟩
  cases r
  · clear hr
    go_wp2_with fail
    go_ret
    exact ⟨rfl, B2⟩
  replace hr := hr rfl
  obtain ⟨v, hv, hrow⟩ := T2 x hx1
  have hv' : w2.cell? ⟨T, (s[0]'h0).toNat, none⟩ = some v := by rw [HX.out]; exact hv
  obtain ⟨va, vn, vc, rfl⟩ := hrow.shape
  clear hv
  have h3 : (((s[0]'h0).toNat : Nat) : Int) < 128 := by have := HX.out; omega
  go_wp2_with fail
  refine (rowSorted_any _ _ _ hrow).mono ?_
  rintro e w' ⟨⟨r, rfl, hso⟩, n, rfl⟩
  cases r
  · clear hso
    go_wp2_with fail
    go_ret
    exact ⟨rfl, below_drewN B2 _⟩
  replace hso := hso rfl
  go_wp2_with fail
  have T3 := T2.drewN n
  have B3 := below_drewN B2 n
  clear T2 B2 hrow hv'
  generalize w2.drewN n = w3 at T3 B3 ⊢
  refine (copy_any T R w3 T3 hr).mono ?_
  rintro e w4 ⟨rfl, T4, B4⟩
  replace B4 := B3.trans (B4.mono B3.size)
  clear T3 B3
  generalize w3.heap.size = N at T4 ⊢
  obtain ⟨v, hv, hrow⟩ := T4 x hx1
  have hv' : w4.cell? ⟨N, (s[0]'h0).toNat, none⟩ = some v := by rw [HX.out]; exact hv
  obtain ⟨va, vn, vc, rfl⟩ := hrow.shape
  clear hv hr
  have HE : Hid (matched R s = Pm.longest (dat s) (dats (R x))) := by
    unfold Hid; rw [Pm.longest_first _ _ hso, matched_row R s h0 (by rw [HX.out]; exact hx1), HX.out]
  clear hso
  go_wp2_with fail
  go_quiet ((go_at_call 11; exact Calls.quiet_of (longest_q _ _ _ _ (hrow.drewN _) (by omega))))
  go_wp2_with (go_at_call 12; refine (zzmatch_q N s R _ (T4.drewN _)).mono ?_; rintro e w' ⟨rfl, n2, rfl⟩)
  go_ret
  exact ⟨by rw [HE.out]; exact ret_bool (by simp), below_drewN B4 _⟩

set_option maxHeartbeats 1600000 in
set_option maxRecDepth 100000 in
/-- s is empty. -/
theorem long_empty (xs : Array Value) (R : Nat → List ByteArray) (w : World) (h : Arr w xs R) :
    Calls Try.prog 3 #[.agg xs, .string ⟨#[]⟩] w fun e w' => e = .returned (.bool true) ∧ Below w.heap.size w w' := by
  have B1 : Below w.heap.size w (w.alloc (.cells xs 23)) := (Below.refl _ _).alloc (Nat.le_refl _) _
  have hg : (w.alloc (.cells xs 23)).heap[w.heap.size]? = some (.cells xs 23 (0, 0)) := Deep.blk_alloc_new _ _
  have A1 := h.below B1 (Nat.le_refl _)
  have hx := info23 xs h.1
  have T1 := h.box
  have B2 : Below w.heap.size w ((w.alloc (.cells xs 23)).alloc (.cells xs 23)) := B1.alloc (by simp) _
  have T2 : Tab ((w.alloc (.cells xs 23)).alloc (.cells xs 23)) w.heap.size R := T1.below ((Below.refl _ _).alloc (Nat.le_refl _) _) (Nat.le_refl _)
  clear T1 h
  have HE : Hid (matched R ⟨#[]⟩ = []) := rfl
  go_enter Try.func3, Try.ntmps3
  go_wp2_with (first
    | (refine wpList_load_row rfl 23 _ rfl w.heap.size rfl 23 xs (0, 0) _ hg Try.underlying23 rfl hx ?_)
    | (go_at_call 7; refine (zz7_any xs ⟨#[]⟩ R _ A1 (by decide)).mono ?_; rintro e w2 ⟨⟨r, rfl⟩, rfl⟩; cases r))
  · go_ret
    exact ⟨rfl, B2⟩
  clear hg A1 B1
  generalize (w.alloc (.cells xs 23)).alloc (.cells xs 23) = w2 at B2 T2 ⊢
  generalize hT : w.heap.size = T at T2 ⊢
  have HT : Hid (w.heap.size = T) := hT
  clear hT
  refine (bytesOK_any T _ R w2 T2 (by omega) (by omega)).mono ?_
  rintro e w' ⟨⟨r, rfl, hr⟩, rfl⟩
  cases r
  · clear hr
    go_wp2_with fail
    go_ret
    exact ⟨rfl, B2⟩
  replace hr := hr rfl
  go_wp2_with fail
  refine (copy_any T R w2 T2 hr).mono ?_
  rintro e w4 ⟨rfl, T4, B4⟩
  replace B4 := B2.trans (B4.mono B2.size)
  generalize w2.heap.size = N at T4 ⊢
  clear T2 B2 hr
  go_wp2_with (go_at_call 12; refine (zzmatch_q N _ R _ (T4)).mono ?_; rintro e w' ⟨rfl, n2, rfl⟩)
  go_ret
  exact ⟨by rw [HE.out]; exact ret_bool (by simp [strOf]), below_drewN B4 _⟩

set_option maxHeartbeats 1600000 in
set_option maxRecDepth 100000 in
/-- The first byte of s picks no row. -/
theorem long_high (xs : Array Value) (s : ByteArray) (R : Nat → List ByteArray) (w : World) (h : Arr w xs R) (hs : s.size ≤ 1048576) (h0 : 0 < s.size) (hh : 128 ≤ (s[0]'h0).toNat) :
    Calls Try.prog 3 #[.agg xs, .string s] w fun e w' => e = .returned (.bool true) ∧ Below w.heap.size w w' := by
  have B1 : Below w.heap.size w (w.alloc (.cells xs 23)) := (Below.refl _ _).alloc (Nat.le_refl _) _
  have hg : (w.alloc (.cells xs 23)).heap[w.heap.size]? = some (.cells xs 23 (0, 0)) := Deep.blk_alloc_new _ _
  have A1 := h.below B1 (Nat.le_refl _)
  have hx := info23 xs h.1
  have T1 := h.box
  have B2 : Below w.heap.size w ((w.alloc (.cells xs 23)).alloc (.cells xs 23)) := B1.alloc (by simp) _
  have T2 : Tab ((w.alloc (.cells xs 23)).alloc (.cells xs 23)) w.heap.size R := T1.below ((Below.refl _ _).alloc (Nat.le_refl _) _) (Nat.le_refl _)
  clear T1 h
  have HE : Hid (matched R s = []) := matched_high R s h0 hh
  have h0i : (0 : Int) < (s.size : Int) := by omega
  have h3 : (128 : Int) ≤ (((s[0]'h0).toNat : Nat) : Int) := by omega
  clear hh
  go_enter Try.func3, Try.ntmps3
  go_wp2_with (first
    | (refine wpList_load_row rfl 23 _ rfl w.heap.size rfl 23 xs (0, 0) _ hg Try.underlying23 rfl hx ?_)
    | (go_at_call 7; refine (zz7_any xs s R _ A1 (by omega)).mono ?_; rintro e w2 ⟨⟨r, rfl⟩, rfl⟩; cases r))
  · go_ret
    exact ⟨rfl, B2⟩
  clear hg A1 B1
  generalize (w.alloc (.cells xs 23)).alloc (.cells xs 23) = w2 at B2 T2 ⊢
  generalize hT : w.heap.size = T at T2 ⊢
  have HT : Hid (w.heap.size = T) := hT
  clear hT
  refine (bytesOK_any T _ R w2 T2 (by omega) (by omega)).mono ?_
  rintro e w' ⟨⟨r, rfl, hr⟩, rfl⟩
  cases r
  · clear hr
    go_wp2_with fail
    go_ret
    exact ⟨rfl, B2⟩
  replace hr := hr rfl
  go_wp2_with fail
  refine (copy_any T R w2 T2 hr).mono ?_
  rintro e w4 ⟨rfl, T4, B4⟩
  replace B4 := B2.trans (B4.mono B2.size)
  generalize w2.heap.size = N at T4 ⊢
  clear T2 B2 hr
  go_wp2_with (go_at_call 12; refine (zzmatch_q N _ R _ (T4)).mono ?_; rintro e w' ⟨rfl, n2, rfl⟩)
  go_ret
  exact ⟨by rw [HE.out]; exact ret_bool (by simp [strOf]), below_drewN B4 _⟩

/-- The law, at every input. -/
theorem long_any (xs : Array Value) (s : ByteArray) (R : Nat → List ByteArray) (w : World) (h : Arr w xs R) (hs : s.size ≤ 9223372036854775807) :
    Calls Try.prog 3 #[.agg xs, .string s] w fun e w' => e = .returned (.bool true) ∧ Below w.heap.size w w' := by
  by_cases hb : 1048576 < s.size
  · exact long_out xs s R w h hs hb
  · by_cases h0 : 0 < s.size
    · by_cases hx : (s[0]'h0).toNat < 128
      · exact long_row xs s R w h (by omega) h0 _ rfl hx
      · exact long_high xs s R w h (by omega) h0 (by omega)
    · have e : s = ⟨#[]⟩ := by
        have : s.data = #[] := Array.eq_empty_of_size_eq_zero (by show s.size = 0; omega)
        cases s; simp at this; rw [this]
      subst e
      exact long_empty xs R w h
end Go.Proofs.Qxb6605606a
