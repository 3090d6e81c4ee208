import Derived.Test.Qxb6605606aScan
namespace Go.Proofs.Qxb6605606a
open Go.RowKit

theorem notEmpty (s : ByteArray) (h : 0 < s.size) : ¬ s.toList = [] := by
  rw [Lib.toList_data]
  intro e
  rw [Lib.size_eq, e] at h; simp at h

theorem firstHit_step {s : ByteArray} {l : List ByteArray} {k : Nat} (h : Pm.isPre (dat s) (dat (l.getD k ByteArray.empty)) = false) (ih : ∀ j < k, Pm.isPre (dat s) ((dats l).getD j []) = false) :
    ∀ j < k + 1, Pm.isPre (dat s) ((dats l).getD j []) = false := by
  intro j hj
  by_cases e : j = k
  · subst e; rw [dats_getD]; exact h
  · exact ih j (by omega)

set_option maxHeartbeats 400000 in
theorem match_empty (T : Nat) (w : World) :
    Calls Try.prog 25 #[.pointer (some ⟨T, 0, none⟩), .string ⟨#[]⟩] w fun e w' => StrIs e [] ∧ ∃ n, w' = w.drewN n := by
  go_enter Try.func25, Try.ntmps25
  go_wp2
  go_ret
  exact ⟨⟨ByteArray.empty, rfl, rfl⟩, 0, rfl⟩

set_option maxHeartbeats 400000 in
theorem match_high (T : Nat) (s : ByteArray) (w : World) (h0 : 0 < s.size) (h : Hid (128 ≤ (s[0]'h0).toNat)) :
    Calls Try.prog 25 #[.pointer (some ⟨T, 0, none⟩), .string s] w fun e w' => StrIs e [] ∧ ∃ n, w' = w.drewN n := by
  have he := notEmpty s h0
  go_enter Try.func25, Try.ntmps25
  go_wp2
  · go_ret
    exact ⟨⟨ByteArray.empty, rfl, rfl⟩, 0, rfl⟩
  · have h1 : s.toList.isEmpty = false ∧ (((s[0]'h0).toNat : Nat) : Int) < 128 := by assumption
    have := h.out
    omega

set_option maxHeartbeats 400000 in
/-- 'match' where the row that s's first byte picks is v. -/
theorem match_row (T : Nat) (s : ByteArray) (v : Value) (l : List ByteArray) (w : World) (h0 : 0 < s.size) (x : Nat) (hx : (s[0]'h0).toNat = x) (h : x < 128)
    (ht : w.cell? ⟨T, x, none⟩ = some v) (hr : StrRow w v l) :
    Calls Try.prog 25 #[.pointer (some ⟨T, 0, none⟩), .string s] w fun e w' => StrIs e (Pm.firstHit (dat s) (dats l)) ∧ ∃ n, w' = w.drewN n := by
  have HX : Hid ((s[0]'h0).toNat = x) := hx
  clear hx
  have he := notEmpty s h0
  have h0i : (0 : Int) < (s.size : Int) := by omega
  obtain ⟨hl, ⟨rfl, a, c, rfl⟩ | ⟨b, off, c, rfl, hc⟩⟩ := hr
  · go_enter Try.func25, Try.ntmps25
    go_wp2
    · have h1 : s.toList.isEmpty = true ∨ (128 : Int) ≤ (((s[0]'h0).toNat : Nat) : Int) := by assumption
      exfalso
      have := HX.out
      rcases h1 with h1 | h1
      · exact he (by simpa using h1)
      · omega
    · have h3 : (((s[0]'h0).toNat : Nat) : Int) < 128 := by have := HX.out; omega
      have ht' : w.cell? ⟨T, (s[0]'h0).toNat, none⟩ = some (.slice a 0 c) := by rw [HX.out]; exact ht
      have h4 : (0 : Int) ≤ (((s[0]'h0).toNat : Nat) : Int) := by omega
      rename (s.toList.isEmpty = false ∧ _) => hh
      clear hh ht he
      go_quiet (fail)
      clear h3 h4
      go_wp2
      refine wp_loop_rounds 1 ?_
      rw [rounds_succ]
      go_wp2
      go_ret
      exact ⟨⟨ByteArray.empty, rfl, rfl⟩, nq, rfl⟩
  · go_enter Try.func25, Try.ntmps25
    go_wp2
    · have h1 : s.toList.isEmpty = true ∨ (128 : Int) ≤ (((s[0]'h0).toNat : Nat) : Int) := by assumption
      exfalso
      have := HX.out
      rcases h1 with h1 | h1
      · exact he (by simpa using h1)
      · omega
    · have h3 : (((s[0]'h0).toNat : Nat) : Int) < 128 := by have := HX.out; omega
      have ht' : w.cell? ⟨T, (s[0]'h0).toNat, none⟩ = some (.slice (some ⟨b, off, none⟩) l.length c) := by rw [HX.out]; exact ht
      have h4 : (0 : Int) ≤ (((s[0]'h0).toNat : Nat) : Int) := by omega
      rename (s.toList.isEmpty = false ∧ _) => hh
      clear hh ht he
      go_quiet (fail)
      clear h3 h4 ht'
      go_wp2
      go_loopg [21] l.length (fun g i wr => ∃ k n : Nat, k + g = l.length ∧ i = .int .i64 k ∧ wr = w.drewN n ∧ ∀ j < k, Pm.isPre (dat s) ((dats l).getD j []) = false)
      case atStart => exact ⟨0, nq, by omega, rfl, rfl, fun j hj => absurd hj (Nat.not_lt_zero _)⟩
      case round =>
        obtain ⟨k, n, hk, rfl, rfl, ih⟩ := hrel
        have HI : Hid (∀ j < k, Pm.isPre (dat s) ((dats l).getD j []) = false) := ih
        have HK : Hid (k + gk = l.length) := hk
        by_cases hlt : k < l.length
        · have hcell := hc k hlt
          obtain ⟨y, hy⟩ : ∃ y, y = l.getD k ByteArray.empty := ⟨_, rfl⟩
          rw [← hy] at hcell
          have HY : Hid (y = l.getD k ByteArray.empty) := hy
          clear hy hc ih hk
          cases hp : Pm.isPre (dat s) (dat y) with
          | true =>
            go_wp2_with (go_at_call 28; refine (hasPrefix28 _ _ _).mono ?_; rintro e w' ⟨rfl, rfl⟩)
            go_ret
            refine ⟨⟨y, rfl, ?_⟩, n, rfl⟩
            exact (Pm.firstHit_at (dat s) (dats l) k (dat y) (by rw [HY.out]; exact dats_at l k hlt) hp HI.out).symm
          | false =>
            go_wp2_with (go_at_call 28; refine (hasPrefix28 _ _ _).mono ?_; rintro e w' ⟨rfl, rfl⟩)
            go_roundg (gk - 1)
            case measure => have := HK.out; omega
            case rel => exact ⟨k + 1, n, by have := HK.out; omega, by go_num, rfl, firstHit_step (by rw [← HY.out]; exact hp) HI.out⟩
        · obtain rfl : k = l.length := by omega
          clear ih hk hc
          go_wp2
          go_ret
          refine ⟨⟨ByteArray.empty, rfl, ?_⟩, n, rfl⟩
          exact (Pm.firstHit_none (dat s) (dats l) (fun j hj => HI.out j (by rw [← dats_length]; exact hj))).symm

/-- The table at block T: row c leads to the strings R c. -/
def Tab (w : World) (T : Nat) (R : Nat → List ByteArray) : Prop := ∀ c, c < 128 → ∃ v, w.cell? ⟨T, c, none⟩ = some v ∧ StrRow w v (R c)

theorem Tab.drewN {w : World} {T : Nat} {R : Nat → List ByteArray} (h : Tab w T R) (n : Nat) : Tab (w.drewN n) T R := fun c hc => by
  obtain ⟨v, h1, h2⟩ := h c hc
  exact ⟨v, by simpa using h1, h2.drewN n⟩

/-- What 'match' answers: the first mark of the row of s's first byte that s starts with. -/
def matched (R : Nat → List ByteArray) (s : ByteArray) : List UInt8 :=
  match dat s with
  | [] => []
  | b :: _ => if b.toNat < 128 then Pm.firstHit (dat s) (dats (R b.toNat)) else []

theorem dat_cons (s : ByteArray) (h : 0 < s.size) : ∃ r, dat s = (s[0]'h) :: r := by
  have h1 := data_at s 0 h
  unfold dat
  rw [← Array.getElem?_toList] at h1
  cases e : s.data.toList with
  | nil => rw [e] at h1; simp at h1
  | cons a r => rw [e] at h1; simp at h1; exact ⟨r, by rw [h1]⟩

theorem match_any (T : Nat) (s : ByteArray) (R : Nat → List ByteArray) (w : World) (ht : Tab w T R) :
    Calls Try.prog 25 #[.pointer (some ⟨T, 0, none⟩), .string s] w fun e w' => StrIs e (matched R s) ∧ ∃ n, w' = w.drewN n := by
  by_cases h0 : 0 < s.size
  · obtain ⟨r, hr⟩ := dat_cons s h0
    by_cases h : (s[0]'h0).toNat < 128
    · obtain ⟨v, h1, h2⟩ := ht _ h
      have e : matched R s = Pm.firstHit (dat s) (dats (R (s[0]'h0).toNat)) := by unfold matched; rw [hr]; simp [h]
      rw [e]
      exact match_row T s v _ w h0 _ rfl h h1 h2
    · have e : matched R s = [] := by unfold matched; rw [hr]; simp [h]
      rw [e]
      exact match_high T s w h0 (show Hid _ from by unfold Hid; omega)
  · have e : s = ⟨#[]⟩ := by
      have : s.data = #[] := Array.eq_empty_of_size_eq_zero (by show s.size = 0; omega)
      cases s; simp at this; rw [this]
    subst e
    exact match_empty T w

set_option maxHeartbeats 400000 in
/-- ZZpunctMatch. -/
theorem zzmatch_any (T : Nat) (s : ByteArray) (R : Nat → List ByteArray) (w : World) (ht : Tab w T R) :
    Calls Try.prog 12 #[.pointer (some ⟨T, 0, none⟩), .string s] w fun e w' => StrIs e (matched R s) ∧ ∃ n, w' = w.drewN n := by
  go_enter Try.func12, Try.ntmps12
  go_wp2_with (go_at_call 25; refine (match_any T s R _ ht).mono ?_; rintro e w' ⟨⟨r, rfl, hr⟩, n, rfl⟩; have HR : Hid (dat r = matched R s) := hr; clear hr)
  go_ret
  exact ⟨⟨r, rfl, HR.out⟩, n, rfl⟩
end Go.Proofs.Qxb6605606a
