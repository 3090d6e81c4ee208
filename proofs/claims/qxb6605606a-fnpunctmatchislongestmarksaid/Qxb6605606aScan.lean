import Derived.Test.Qxb6605606aLeaf
namespace Go.Proofs.Qxb6605606a
open Go.RowKit

/-- The slice value v leads, in the world w, to the strings l. -/
def StrRow (w : World) (v : Value) (l : List ByteArray) : Prop :=
  l.length ≤ 9223372036854775807 ∧ ((l = [] ∧ ∃ a c, v = .slice a 0 c) ∨
    ∃ b off c, v = .slice (some ⟨b, off, none⟩) l.length c ∧ ∀ i, i < l.length → w.cell? ⟨b, off + i, none⟩ = some (.string (l.getD i ByteArray.empty)))

theorem StrRow.cells {w w' : World} {v : Value} {l : List ByteArray} (h : StrRow w v l) (hc : ∀ a x, w.cell? a = some x → w'.cell? a = some x) : StrRow w' v l := by
  refine ⟨h.1, ?_⟩
  rcases h.2 with h | ⟨b, off, c, hv, hh⟩
  · exact .inl h
  · exact .inr ⟨b, off, c, hv, fun i hi => hc _ _ (hh i hi)⟩

theorem StrRow.drewN {w : World} {v : Value} {l : List ByteArray} (h : StrRow w v l) (n : Nat) : StrRow (w.drewN n) v l :=
  h.cells (fun a x hx => by simpa using hx)

/-- It returns a bool that is true just where p holds. -/
def BoolIff (e : Ending) (p : Prop) : Prop := ∃ r : Bool, e = .returned (.bool r) ∧ (r = true ↔ p)
/-- It returns a bool that is true only where p holds. -/
def BoolImp (e : Ending) (p : Prop) : Prop := ∃ r : Bool, e = .returned (.bool r) ∧ (r = true → p)
/-- It returns a string of the bytes d. -/
def StrIs (e : Ending) (d : List UInt8) : Prop := ∃ r : ByteArray, e = .returned (.string r) ∧ dat r = d

/-- The bytes of each string of a row. -/
def dats (l : List ByteArray) : List (List UInt8) := l.map dat

theorem dats_getD (l : List ByteArray) (k : Nat) : (dats l).getD k [] = dat (l.getD k ByteArray.empty) := by
  unfold dats
  rw [List.getD_eq_getElem?_getD, List.getD_eq_getElem?_getD, List.getElem?_map]
  cases l[k]? <;> rfl

theorem dats_at (l : List ByteArray) (k : Nat) (h : k < l.length) : (dats l)[k]? = some (dat (l.getD k ByteArray.empty)) := by
  unfold dats
  rw [List.getElem?_map, List.getD_eq_getElem?_getD, List.getElem?_eq_getElem h]; rfl

theorem dats_length (l : List ByteArray) : (dats l).length = l.length := by simp [dats]

theorem inRow_step {l : List ByteArray} {m : ByteArray} {k : Nat} (h : ((l.getD k ByteArray.empty).toList == m.toList) = false) (ih : ∀ j, j < k → (dats l).getD j [] ≠ dat m) :
    ∀ j, j < k + 1 → (dats l).getD j [] ≠ dat m := by
  intro j hj
  by_cases e : j = k
  · subst e
    rw [dats_getD]
    rw [Lib.toList_data, Lib.toList_data] at h
    exact fun hc => by rw [show (l.getD j ByteArray.empty).data.toList = m.data.toList from hc] at h; simp at h
  · exact ih j (by omega)

theorem inRow_hit {l : List ByteArray} {m : ByteArray} {k : Nat} (hk : k < l.length) (h : ((l.getD k ByteArray.empty).toList == m.toList) = true) : dat m ∈ dats l := by
  rw [Lib.toList_data, Lib.toList_data] at h
  have e : dat (l.getD k ByteArray.empty) = dat m := by unfold dat; simpa using h
  rw [← e]
  exact List.mem_of_getElem? (dats_at l k hk)

theorem inRow_miss {l : List ByteArray} {m : ByteArray} (ih : ∀ j, j < l.length → (dats l).getD j [] ≠ dat m) : ¬ dat m ∈ dats l := by
  intro h
  obtain ⟨i, hi, e⟩ := List.getElem_of_mem h
  refine ih i (by rw [← dats_length]; exact hi) ?_
  rw [List.getD_eq_getElem?_getD, List.getElem?_eq_getElem hi, e]; rfl

set_option maxHeartbeats 400000 in
/-- inRow: is m among the strings of the row? -/
theorem inRow_any (v : Value) (l : List ByteArray) (m : ByteArray) (w : World) (h : StrRow w v l) :
    Calls Try.prog 14 #[v, .string m] w fun e w' => BoolIff e (dat m ∈ dats l) ∧ w = w' := by
  obtain ⟨hl, ⟨rfl, a, c, rfl⟩ | ⟨b, off, c, rfl, hc⟩⟩ := h
  · go_enter Try.func14, Try.ntmps14
    go_wp2
    refine wp_loop_rounds 1 ?_
    rw [rounds_succ]
    go_wp2
    go_ret
    exact ⟨⟨false, rfl, by simp [dats]⟩, rfl⟩
  · go_enter Try.func14, Try.ntmps14
    go_wp2
    go_loop [5] (fun i => ∃ k : Nat, k ≤ l.length ∧ i = .int .i64 k ∧ ∀ j, j < k → (dats l).getD j [] ≠ dat m) (fun i => l.length - (intOf i).toNat)
    case atStart => exact ⟨0, Nat.zero_le _, rfl, fun j hj => absurd hj (Nat.not_lt_zero _)⟩
    case round =>
      obtain ⟨k, hk, rfl, ih⟩ := hrel
      have HI : Hid (∀ j, j < k → (dats l).getD j [] ≠ dat m) := ih
      clear ih
      by_cases hlt : k < l.length
      · have hcell := hc k hlt
        obtain ⟨x, hx⟩ : ∃ x, x = l.getD k ByteArray.empty := ⟨_, rfl⟩
        rw [← hx] at hcell
        have HX : Hid (x = l.getD k ByteArray.empty) := hx
        clear hx hc
        go_wp2
        · have ht : (x.toList == m.toList) = true := by assumption
          rw [HX.out] at ht
          go_ret
          exact ⟨⟨true, rfl, by simp [inRow_hit hlt ht]⟩, rfl⟩
        · have ht : (x.toList == m.toList) = false := by assumption
          rw [HX.out] at ht
          go_round
          case rel => exact ⟨k + 1, by omega, by go_num, inRow_step ht HI.out⟩
          case measure => simp [intOf]; omega
      · obtain rfl : k = l.length := by omega
        go_wp2
        go_ret
        exact ⟨⟨false, rfl, by simp [inRow_miss HI.out]⟩, rfl⟩

theorem sorted_step {l : List ByteArray} {x y : ByteArray} {q : Nat} (hx : x = l.getD (q + 1) ByteArray.empty) (hy : y = l.getD q ByteArray.empty) (h : ¬ y.size < x.size)
    (ih : ∀ j, j + 1 < q + 1 → ((dats l).getD (j + 1) []).length ≤ ((dats l).getD j []).length) : ∀ j, j + 1 < q + 1 + 1 → ((dats l).getD (j + 1) []).length ≤ ((dats l).getD j []).length := by
  intro j hj
  by_cases e : j = q
  · subst e
    rw [dats_getD, dats_getD, dat_length, dat_length, ← hx, ← hy]; omega
  · exact ih j (by omega)

set_option maxHeartbeats 400000 in
/-- rowSortedLongestFirst: true only where no string is longer than the one before it. -/
theorem rowSorted_any (v : Value) (l : List ByteArray) (w : World) (h : StrRow w v l) :
    Calls Try.prog 9 #[v] w fun e w' => BoolImp e (Pm.Sorted (dats l)) ∧ ∃ n, w' = w.drewN n := by
  obtain ⟨hl, ⟨rfl, a, c, rfl⟩ | ⟨b, off, c, rfl, hc⟩⟩ := h
  · go_enter Try.func9, Try.ntmps9
    go_wp2
    refine wp_loop_rounds 1 ?_
    rw [rounds_succ]
    go_wp2
    go_ret
    exact ⟨⟨true, rfl, fun _ => List.Pairwise.nil⟩, 0, rfl⟩
  · go_enter Try.func9, Try.ntmps9
    go_wp2
    go_loopw [3] (fun i wr => ∃ k n : Nat, 1 ≤ k ∧ (k ≤ l.length ∨ k = 1) ∧ i = .int .i64 k ∧ wr = w.drewN n ∧ ∀ j, j + 1 < k → ((dats l).getD (j + 1) []).length ≤ ((dats l).getD j []).length) (fun i _ => l.length - (intOf i).toNat)
    case atStart => exact ⟨1, 0, Nat.le_refl _, .inr rfl, rfl, rfl, fun j hj => by omega⟩
    case round =>
      obtain ⟨k, n, hk1, hk, rfl, rfl, ih⟩ := hrel
      have HI : Hid (∀ j, j + 1 < k → ((dats l).getD (j + 1) []).length ≤ ((dats l).getD j []).length) := ih
      clear ih
      by_cases hlt : k < l.length
      · obtain ⟨q, rfl⟩ : ∃ q, k = q + 1 := ⟨k - 1, by omega⟩
        have hcell := hc (q + 1) hlt
        have hcell' := hc q (by omega)
        obtain ⟨x, hx⟩ : ∃ x, x = l.getD (q + 1) ByteArray.empty := ⟨_, rfl⟩
        obtain ⟨y, hy⟩ : ∃ y, y = l.getD q ByteArray.empty := ⟨_, rfl⟩
        rw [← hx] at hcell
        rw [← hy] at hcell'
        have HX : Hid (x = l.getD (q + 1) ByteArray.empty) := hx
        have HY : Hid (y = l.getD q ByteArray.empty) := hy
        clear hx hy hc hk
        have b1 : (q : Int) + 1 < (l.length : Int) := by omega
        have b2 : (q : Int) < (l.length : Int) := by omega
        go_wp2
        go_quiet (fail)
        go_wp2
        · go_ret
          exact ⟨⟨false, rfl, fun h => by cases h⟩, n + nq, by simp⟩
        · have hle : ¬ y.size < x.size := by assumption
          go_roundw
          case rel => exact ⟨q + 1 + 1, n + nq, by omega, .inl (by omega), by go_num, rfl, sorted_step HX.out HY.out hle HI.out⟩
          case measure => simp [intOf]; omega
      · go_wp2
        go_ret
        refine ⟨⟨true, rfl, fun _ => Pm.sorted_of_steps _ (fun i hi => HI.out i ?_)⟩, n, rfl⟩
        rw [dats_length] at hi; omega

theorem better_hit {s best x : ByteArray} (h1 : best.size < x.size) (h2 : Pm.isPre (dat s) (dat x) = true) : Pm.better (dat s) (dat best) (dat x) = dat x := by
  unfold Pm.better; rw [if_pos ⟨by rw [dat_length, dat_length]; exact h1, h2⟩]
theorem better_no {s best x : ByteArray} (h : ¬ (best.size < x.size ∧ Pm.isPre (dat s) (dat x) = true)) : Pm.better (dat s) (dat best) (dat x) = dat best := by
  unfold Pm.better; rw [if_neg]; rw [dat_length, dat_length]; exact h
theorem fold_step (s : ByteArray) (l : List ByteArray) (k : Nat) (hk : k < l.length) :
    ((dats l).take (k + 1)).foldl (Pm.better (dat s)) [] = Pm.better (dat s) (((dats l).take k).foldl (Pm.better (dat s)) []) (dat (l.getD k ByteArray.empty)) := by
  rw [List.take_add_one, dats_at l k hk, List.foldl_append]; rfl

set_option maxHeartbeats 400000 in
/-- longestMarkIn: the longest string of the row that s starts with. -/
theorem longest_any (v : Value) (l : List ByteArray) (s : ByteArray) (w : World) (h : StrRow w v l) (hs : s.size ≤ 9223372036854775807) :
    Calls Try.prog 11 #[v, .string s] w fun e w' => StrIs e (Pm.longest (dat s) (dats l)) ∧ ∃ n, w' = w.drewN n := by
  obtain ⟨hl, ⟨rfl, a, c, rfl⟩ | ⟨b, off, c, rfl, hc⟩⟩ := h
  · go_enter Try.func11, Try.ntmps11
    go_wp2
    refine wp_loop_rounds 1 ?_
    rw [rounds_succ]
    go_wp2
    go_ret
    exact ⟨⟨ByteArray.empty, rfl, rfl⟩, 0, rfl⟩
  · go_enter Try.func11, Try.ntmps11
    go_wp2
    go_loopg [5, 6] l.length (fun g bst i wr => ∃ (k n : Nat) (best : ByteArray), k + g = l.length ∧ i = .int .i64 k ∧ bst = .string best ∧ wr = w.drewN n ∧ dat best = ((dats l).take k).foldl (Pm.better (dat s)) [])
    case atStart => exact ⟨0, 0, ByteArray.empty, by omega, rfl, rfl, rfl, rfl⟩
    case round =>
      obtain ⟨k, n, best, hk, rfl, rfl, rfl, ih⟩ := hrel
      have HI : Hid (dat best = ((dats l).take k).foldl (Pm.better (dat s)) []) := ih
      have HK : Hid (k + gk = l.length) := hk
      by_cases hlt : k < l.length
      · have hcell := hc k hlt
        obtain ⟨x, hx⟩ : ∃ x, x = l.getD k ByteArray.empty := ⟨_, rfl⟩
        rw [← hx] at hcell
        have HF : Hid (((dats l).take (k + 1)).foldl (Pm.better (dat s)) [] = Pm.better (dat s) (dat best) (dat x)) := by
          have := fold_step s l k hlt
          rw [← ih, ← hx] at this
          exact this
        clear hx hc ih hk
        by_cases hb : best.size < x.size
        · have hbi : (best.size : Int) < (x.size : Int) := by omega
          cases hp : Pm.isPre (dat s) (dat x) with
          | true =>
            have HP := better_hit hb hp
            have HP' : Hid (Pm.better (dat s) (dat best) (dat x) = dat x) := HP
            clear HP
            go_wp2_with (go_at_call 15; refine (hasPrefixStr_any _ _ _ hs).mono ?_; rintro e w' ⟨rfl, nq, rfl⟩)
            go_roundg (gk - 1)
            case measure => have := HK.out; omega
            case rel => exact ⟨k + 1, n + nq, x, by have := HK.out; omega, by go_num, rfl, by simp, by rw [HF.out, HP'.out]⟩
          | false =>
            have HP := better_no (s := s) (best := best) (x := x) (by rw [hp]; simp)
            have HP' : Hid (Pm.better (dat s) (dat best) (dat x) = dat best) := HP
            clear HP
            go_wp2_with (go_at_call 15; refine (hasPrefixStr_any _ _ _ hs).mono ?_; rintro e w' ⟨rfl, nq, rfl⟩)
            go_roundg (gk - 1)
            case measure => have := HK.out; omega
            case rel => exact ⟨k + 1, n + nq, best, by have := HK.out; omega, by go_num, rfl, by simp, by rw [HF.out, HP'.out]⟩
        · have HP := better_no (s := s) (best := best) (x := x) (fun h => hb h.1)
          have HP' : Hid (Pm.better (dat s) (dat best) (dat x) = dat best) := HP
          clear HP
          have hbi : decide ((best.size : Int) < (x.size : Int)) = false := by simpa using hb
          go_wp2_with fail
          go_roundg (gk - 1)
          case measure => have := HK.out; omega
          case rel => exact ⟨k + 1, n, best, by have := HK.out; omega, by go_num, rfl, rfl, by rw [HF.out, HP'.out]⟩
      · obtain rfl : k = l.length := by omega
        clear ih hk hc
        go_wp2
        go_ret
        refine ⟨⟨best, rfl, ?_⟩, n, rfl⟩
        rw [HI.out, List.take_of_length_le (by rw [dats_length]; exact Nat.le_refl _)]; rfl
end Go.Proofs.Qxb6605606a
