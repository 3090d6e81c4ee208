import Derived.Test.Qxb6605606aLong
namespace Go.Proofs.Qxb6605606a
open Go.RowKit

set_option maxHeartbeats 1600000 in
theorem bytesOK_big (T : Nat) (x : Int) (w : World) (hx : 1048576 < x) :
    Calls Try.prog 8 #[.pointer (some ⟨T, 0, none⟩), .int .i64 x] w fun e w' => e = .returned (.bool false) ∧ w = w' := by
  have hxd : decide (x < 0) = false := by simp; omega
  go_enter Try.func8, Try.ntmps8
  go_wp2
  go_ret
  exact ⟨rfl, rfl⟩

theorem bytesOK_wide (T : Nat) (x : Int) (R : Nat → List ByteArray) (w : World) (ht : Tab w T R) (hx0 : 0 ≤ x) :
    Calls Try.prog 8 #[.pointer (some ⟨T, 0, none⟩), .int .i64 x] w fun e w' => BoolImp e (∀ c, c < 128 → (R c).length ≤ 65536) ∧ w = w' := by
  by_cases h : x ≤ 1048576
  · exact bytesOK_any T x R w ht hx0 h
  · exact (bytesOK_big T x w (by omega)).mono fun _ _ h => ⟨⟨false, h.1, fun h => by cases h⟩, h.2⟩

theorem append_facts (m t : ByteArray) (h0 : 0 < m.size) : dat (m ++ t) = dat m ++ dat t ∧ (m ++ t).size = m.size + t.size ∧ ∃ h1 : 0 < (m ++ t).size, ((m ++ t)[0]'h1).toNat = (m[0]'h0).toNat := by
  have e : dat (m ++ t) = dat m ++ dat t := by unfold dat; simp
  have es : (m ++ t).size = m.size + t.size := by rw [← dat_length, e, List.length_append, dat_length, dat_length]
  refine ⟨e, es, by omega, ?_⟩
  have h1 : 0 < (m ++ t).size := by omega
  obtain ⟨r, hr⟩ := dat_cons (m ++ t) h1
  obtain ⟨r', hr'⟩ := dat_cons m h0
  rw [e, hr'] at hr
  injection hr with hr _
  rw [hr]

set_option maxHeartbeats 1600000 in
set_option maxRecDepth 100000 in
/-- m is too long. -/
theorem munch_out (xs : Array Value) (m t : ByteArray) (R : Nat → List ByteArray) (w : World) (h : Arr w xs R) (hm : m.size ≤ 9223372036854775807) (ht : t.size ≤ 9223372036854775807) (hb : 1048576 < m.size) :
    Calls Try.prog 4 #[.agg xs, .string m, .string t] w fun e w' => e = .returned (.bool true) ∧ Below w.heap.size w w' := by
  have B1 : Below w.heap.size w (w.alloc (.cells xs 23)) := (Below.refl _ _).alloc (Nat.le_refl _) _
  have hg : (w.alloc (.cells xs 23)).heap[w.heap.size]? = some (.cells xs 23 (0, 0)) := Deep.blk_alloc_new _ _
  have A1 := h.below B1 (Nat.le_refl _)
  have hx := info23 xs h.1
  have T1 := h.box
  have B2 : Below w.heap.size w ((w.alloc (.cells xs 23)).alloc (.cells xs 23)) := B1.alloc (by simp) _
  have T2 : Tab ((w.alloc (.cells xs 23)).alloc (.cells xs 23)) w.heap.size R := T1.below ((Below.refl _ _).alloc (Nat.le_refl _) _) (Nat.le_refl _)
  clear T1 h
  go_enter Try.func4, Try.ntmps4
  go_wp2_with (first
    | (refine wpList_load_row rfl 23 _ rfl w.heap.size rfl 23 xs (0, 0) _ hg Try.underlying23 rfl hx ?_)
    | (go_at_call 13; refine (zz13_any xs m t R _ A1 (by omega) (by omega)).mono ?_; rintro e w2 ⟨⟨r, rfl⟩, rfl⟩; cases r))
  all_goals go_ret
  all_goals exact ⟨rfl, B2⟩

set_option maxHeartbeats 1600000 in
set_option maxRecDepth 100000 in
/-- The tail is too long. -/
theorem munch_out2 (xs : Array Value) (m t : ByteArray) (R : Nat → List ByteArray) (w : World) (h : Arr w xs R) (hm : m.size ≤ 1048576) (ht : t.size ≤ 9223372036854775807) (hb : 1048576 < t.size) :
    Calls Try.prog 4 #[.agg xs, .string m, .string t] w fun e w' => e = .returned (.bool true) ∧ Below w.heap.size w w' := by
  have B1 : Below w.heap.size w (w.alloc (.cells xs 23)) := (Below.refl _ _).alloc (Nat.le_refl _) _
  have hg : (w.alloc (.cells xs 23)).heap[w.heap.size]? = some (.cells xs 23 (0, 0)) := Deep.blk_alloc_new _ _
  have A1 := h.below B1 (Nat.le_refl _)
  have hx := info23 xs h.1
  have T1 := h.box
  have B2 : Below w.heap.size w ((w.alloc (.cells xs 23)).alloc (.cells xs 23)) := B1.alloc (by simp) _
  have T2 : Tab ((w.alloc (.cells xs 23)).alloc (.cells xs 23)) w.heap.size R := T1.below ((Below.refl _ _).alloc (Nat.le_refl _) _) (Nat.le_refl _)
  clear T1 h
  go_enter Try.func4, Try.ntmps4
  go_wp2_with (first
    | (refine wpList_load_row rfl 23 _ rfl w.heap.size rfl 23 xs (0, 0) _ hg Try.underlying23 rfl hx ?_)
    | (go_at_call 13; refine (zz13_any xs m t R _ A1 (by omega) (by omega)).mono ?_; rintro e w2 ⟨⟨r, rfl⟩, rfl⟩; cases r))
  all_goals go_ret
  all_goals exact ⟨rfl, B2⟩

set_option maxHeartbeats 1600000 in
set_option maxRecDepth 100000 in
/-- The first byte of m picks no row. -/
theorem munch_high (xs : Array Value) (m t : ByteArray) (R : Nat → List ByteArray) (w : World) (h : Arr w xs R) (hm : m.size ≤ 1048576) (ht : t.size ≤ 1048576) (h0 : 0 < m.size) (hh : 128 ≤ (m[0]'h0).toNat) :
    Calls Try.prog 4 #[.agg xs, .string m, .string t] w fun e w' => e = .returned (.bool true) ∧ Below w.heap.size w w' := by
  have B1 : Below w.heap.size w (w.alloc (.cells xs 23)) := (Below.refl _ _).alloc (Nat.le_refl _) _
  have hg : (w.alloc (.cells xs 23)).heap[w.heap.size]? = some (.cells xs 23 (0, 0)) := Deep.blk_alloc_new _ _
  have A1 := h.below B1 (Nat.le_refl _)
  have hx := info23 xs h.1
  have T1 := h.box
  have B2 : Below w.heap.size w ((w.alloc (.cells xs 23)).alloc (.cells xs 23)) := B1.alloc (by simp) _
  have T2 : Tab ((w.alloc (.cells xs 23)).alloc (.cells xs 23)) w.heap.size R := T1.below ((Below.refl _ _).alloc (Nat.le_refl _) _) (Nat.le_refl _)
  clear T1 h
  go_enter Try.func4, Try.ntmps4
  go_wp2_with (first
    | (refine wpList_load_row rfl 23 _ rfl w.heap.size rfl 23 xs (0, 0) _ hg Try.underlying23 rfl hx ?_)
    | (go_at_call 13; refine (zz13_any xs m t R _ A1 (by omega) (by omega)).mono ?_; rintro e w2 ⟨⟨r, rfl⟩, rfl⟩; cases r))
  · go_ret
    exact ⟨rfl, B2⟩
  clear hg A1 B1
  generalize (w.alloc (.cells xs 23)).alloc (.cells xs 23) = w2 at B2 T2 ⊢
  generalize hT : w.heap.size = T at T2 ⊢
  have HT : Hid (w.heap.size = T) := hT
  clear hT
  refine (bytesOK_wide T _ R w2 T2 (by omega)).mono ?_
  rintro e w' ⟨⟨r, rfl, hr⟩, rfl⟩
  cases r
  · clear hr
    go_wp2_with fail
    go_ret
    exact ⟨rfl, B2⟩
  replace hr := hr rfl
  clear hr
  have h0i : ((m.size : Int) == 0) = false := beq_eq_false_iff_ne.2 (by omega)
  have h3 : (128 : Int) ≤ (((m[0]'h0).toNat : Nat) : Int) := by omega
  clear hh
  go_wp2_with fail
  go_ret
  exact ⟨rfl, B2⟩

set_option maxHeartbeats 1600000 in
set_option maxRecDepth 100000 in
/-- m is empty. -/
theorem munch_empty (xs : Array Value) (m t : ByteArray) (R : Nat → List ByteArray) (w : World) (h : Arr w xs R) (hm : m.size = 0) (ht : t.size ≤ 1048576) :
    Calls Try.prog 4 #[.agg xs, .string m, .string t] w fun e w' => e = .returned (.bool true) ∧ Below w.heap.size w w' := by
  have HM : Hid (m.size = 0) := hm
  replace hm : m.size ≤ 0 := by omega
  have B1 : Below w.heap.size w (w.alloc (.cells xs 23)) := (Below.refl _ _).alloc (Nat.le_refl _) _
  have hg : (w.alloc (.cells xs 23)).heap[w.heap.size]? = some (.cells xs 23 (0, 0)) := Deep.blk_alloc_new _ _
  have A1 := h.below B1 (Nat.le_refl _)
  have hx := info23 xs h.1
  have T1 := h.box
  have B2 : Below w.heap.size w ((w.alloc (.cells xs 23)).alloc (.cells xs 23)) := B1.alloc (by simp) _
  have T2 : Tab ((w.alloc (.cells xs 23)).alloc (.cells xs 23)) w.heap.size R := T1.below ((Below.refl _ _).alloc (Nat.le_refl _) _) (Nat.le_refl _)
  clear T1 h
  go_enter Try.func4, Try.ntmps4
  go_wp2_with (first
    | (refine wpList_load_row rfl 23 _ rfl w.heap.size rfl 23 xs (0, 0) _ hg Try.underlying23 rfl hx ?_)
    | (go_at_call 13; refine (zz13_any xs m t R _ A1 (by omega) (by omega)).mono ?_; rintro e w2 ⟨⟨r, rfl⟩, rfl⟩; cases r))
  · go_ret
    exact ⟨rfl, B2⟩
  clear hg A1 B1
  generalize (w.alloc (.cells xs 23)).alloc (.cells xs 23) = w2 at B2 T2 ⊢
  generalize hT : w.heap.size = T at T2 ⊢
  have HT : Hid (w.heap.size = T) := hT
  clear hT
  refine (bytesOK_wide T _ R w2 T2 (by omega)).mono ?_
  rintro e w' ⟨⟨r, rfl, hr⟩, rfl⟩
  cases r
  · clear hr
    go_wp2_with fail
    go_ret
    exact ⟨rfl, B2⟩
  replace hr := hr rfl
  clear hr
  have h0i : ((m.size : Int) == 0) = true := by simp [HM.out]
  go_wp2_with fail
  go_ret
  exact ⟨rfl, B2⟩

set_option maxHeartbeats 1600000 in
set_option maxRecDepth 100000 in
/-- The main way. -/
theorem munch_row (xs : Array Value) (m t : ByteArray) (R : Nat → List ByteArray) (w : World) (h : Arr w xs R) (hm : m.size ≤ 1048576) (ht : t.size ≤ 1048576) (h0 : 0 < m.size) (x : Nat) (hx0 : (m[0]'h0).toNat = x) (hx1 : x < 128) :
    Calls Try.prog 4 #[.agg xs, .string m, .string t] w fun e w' => e = .returned (.bool true) ∧ Below w.heap.size w w' := by
  have HX : Hid ((m[0]'h0).toNat = x) := hx0
  clear hx0
  have B1 : Below w.heap.size w (w.alloc (.cells xs 23)) := (Below.refl _ _).alloc (Nat.le_refl _) _
  have hg : (w.alloc (.cells xs 23)).heap[w.heap.size]? = some (.cells xs 23 (0, 0)) := Deep.blk_alloc_new _ _
  have A1 := h.below B1 (Nat.le_refl _)
  have hx := info23 xs h.1
  have T1 := h.box
  have B2 : Below w.heap.size w ((w.alloc (.cells xs 23)).alloc (.cells xs 23)) := B1.alloc (by simp) _
  have T2 : Tab ((w.alloc (.cells xs 23)).alloc (.cells xs 23)) w.heap.size R := T1.below ((Below.refl _ _).alloc (Nat.le_refl _) _) (Nat.le_refl _)
  clear T1 h
  go_enter Try.func4, Try.ntmps4
  go_wp2_with (first
    | (refine wpList_load_row rfl 23 _ rfl w.heap.size rfl 23 xs (0, 0) _ hg Try.underlying23 rfl hx ?_)
    | (go_at_call 13; refine (zz13_any xs m t R _ A1 (by omega) (by omega)).mono ?_; rintro e w2 ⟨⟨r, rfl⟩, rfl⟩; cases r))
  · go_ret
    exact ⟨rfl, B2⟩
  clear hg A1 B1
  generalize (w.alloc (.cells xs 23)).alloc (.cells xs 23) = w2 at B2 T2 ⊢
  generalize hT : w.heap.size = T at T2 ⊢
  have HT : Hid (w.heap.size = T) := hT
  clear hT
  refine (bytesOK_wide T _ R w2 T2 (by omega)).mono ?_
  rintro e w' ⟨⟨r, rfl, hr⟩, rfl⟩
  cases r
  · clear hr
    go_wp2_with fail
    go_ret
    exact ⟨rfl, B2⟩
  replace hr := hr rfl
  have h0i : ((m.size : Int) == 0) = false := beq_eq_false_iff_ne.2 (by omega)
  have h3 : (((m[0]'h0).toNat : Nat) : Int) < 128 := by have := HX.out; omega
  obtain ⟨v, hv, hrow⟩ := T2 x hx1
  have hv' : w2.cell? ⟨T, (m[0]'h0).toNat, none⟩ = some v := by rw [HX.out]; exact hv
  obtain ⟨va, vn, vc, rfl⟩ := hrow.shape
  clear hv
  go_wp2_with fail
  refine (rowSorted_any _ _ _ hrow).mono ?_
  rintro e w' ⟨⟨r, rfl, hso⟩, n, rfl⟩
  cases r
  · clear hso
    go_wp2_with fail
    go_ret
    exact ⟨rfl, below_drewN B2 _⟩
  replace hso := hso rfl
  go_wp2_with fail
  refine (inRow_any _ _ _ _ (hrow.drewN n)).mono ?_
  rintro e w' ⟨⟨r, rfl, hin⟩, rfl⟩
  cases r
  · clear hso hin
    go_wp2_with fail
    go_ret
    exact ⟨rfl, below_drewN B2 _⟩
  replace hin := hin.1 rfl
  go_wp2_with fail
  have T3 := T2.drewN n
  have B3 := below_drewN B2 n
  clear T2 B2 hrow hv'
  generalize w2.drewN n = w3 at T3 B3 ⊢
  refine (copy_any T R w3 T3 hr).mono ?_
  rintro e w4 ⟨rfl, T4, B4⟩
  replace B4 := B3.trans (B4.mono B3.size)
  clear T3 B3
  generalize w3.heap.size = N at T4 ⊢
  obtain ⟨v, hv, hrow⟩ := T4 x hx1
  have hv' : w4.cell? ⟨N, (m[0]'h0).toNat, none⟩ = some v := by rw [HX.out]; exact hv
  obtain ⟨va, vn, vc, rfl⟩ := hrow.shape
  clear hv hr
  have h00 : (0 : Int) < (m.size : Int) := by omega
  have h4 : (0 : Int) ≤ (((m[0]'h0).toNat : Nat) : Int) := by omega
  go_wp2_with fail
  go_quiet (fail)
  have HM : Hid (strOf (matched R m) = m) := by
    unfold Hid
    rw [matched_row R m h0 (by rw [HX.out]; exact hx1), HX.out, Pm.munch_self _ _ hso hin]
    unfold strOf dat; rw [Lib.mk_data]
  go_wp2_with fail
  refine (zzmatch_q N m R _ (T4.drewN _)).mono ?_
  rw [HM.out]
  rintro e w' ⟨rfl, n2, rfl⟩
  go_wp2_with fail
  obtain ⟨hd, hsz, hs1, hs2⟩ := append_facts m t h0
  generalize m ++ t = s at hd hsz hs1 hs2 ⊢
  have G := Pm.hit_mem (dat s) (dats (R x)) (dat m) hin (by rw [hd]; exact Pm.pre_append _ _)
  have G3 := Pm.hit_long (dat s) (dats (R x)) (dat m) hso hin (by rw [hd]; exact Pm.pre_append _ _)
  have hma : matched R s = Pm.firstHit (dat s) (dats (R x)) := by
    rw [matched_row R s hs1 (by rw [hs2, HX.out]; exact hx1), hs2, HX.out]
  rw [← hma] at G G3
  refine (zzmatch_q N s R _ (T4.drewN _)).mono ?_
  obtain ⟨got, hgot⟩ : ∃ got, got = strOf (matched R s) := ⟨_, rfl⟩
  rw [← hgot]
  have hdg : matched R s = dat got := by rw [hgot, dat_strOf]
  rw [hdg] at G G3
  rw [dat_length, dat_length] at G3
  have G2 : Hid (Pm.isPre (dat s) (dat got) = true) := G.2
  have G1 : Hid (dat got ∈ dats (R x)) := G.1
  have hss : s.size ≤ 9223372036854775807 := by omega
  have G3i : (m.size : Int) ≤ (got.size : Int) := by omega
  clear hgot hdg hma hd hs2 G HM hso hin hsz hv'
  rintro e w' ⟨rfl, n3, rfl⟩
  go_wp2_with fail
  refine (hasPrefixStr_any _ _ _ hss).mono ?_
  rw [G2.out]
  rintro e w' ⟨rfl, n4, rfl⟩
  go_wp2_with fail
  refine (inRow_any _ _ _ _ (hrow.drewN _)).mono ?_
  rintro e w' ⟨⟨r, rfl, hin⟩, rfl⟩
  obtain rfl : r = true := hin.2 G1.out
  clear hin
  go_wp2_with fail
  go_ret
  exact ⟨rfl, below_drewN B4 _⟩

/-- The law, at every input. -/
theorem munch_any (xs : Array Value) (m t : ByteArray) (R : Nat → List ByteArray) (w : World) (h : Arr w xs R) (hm : m.size ≤ 9223372036854775807) (ht : t.size ≤ 9223372036854775807) :
    Calls Try.prog 4 #[.agg xs, .string m, .string t] w fun e w' => e = .returned (.bool true) ∧ Below w.heap.size w w' := by
  by_cases hb : 1048576 < m.size
  · exact munch_out xs m t R w h hm ht hb
  · by_cases hc : 1048576 < t.size
    · exact munch_out2 xs m t R w h (by omega) ht hc
    · by_cases h0 : 0 < m.size
      · by_cases hx : (m[0]'h0).toNat < 128
        · exact munch_row xs m t R w h (by omega) (by omega) h0 _ rfl hx
        · exact munch_high xs m t R w h (by omega) (by omega) h0 (by omega)
      · exact munch_empty xs m t R w h (by omega) (by omega)
end Go.Proofs.Qxb6605606a
