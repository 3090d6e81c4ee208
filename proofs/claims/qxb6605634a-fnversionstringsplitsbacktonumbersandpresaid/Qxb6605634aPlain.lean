import Derived.Test.Qxb6605634aVer
namespace Go.Proofs.Qxb6605634a
open Go.RowKit

theorem data_at (s : ByteArray) (k : Nat) (h : k < s.size) : (dat s)[k]? = some (s[k]'h) := by
  unfold dat
  rw [Array.getElem?_toList, Array.getElem?_eq_getElem (show k < s.data.size from h)]; rfl

theorem dat_append (s t : ByteArray) : dat (s ++ t) = dat s ++ dat t := by unfold dat; simp

theorem eq_of_dat {s t : ByteArray} (h : dat s = dat t) : s = t := by
  have e : s.data = t.data := by unfold dat at h; exact Array.toList_inj.1 h
  cases s; cases t; simp at e; rw [e]

theorem dat_extract (s : ByteArray) (a b : Nat) : dat (s.extract a b) = ((dat s).drop a).take (b - a) := Lib.extract_data s a b

/-- Every byte of a digit string is a digit. -/
theorem Digits.mem {s : ByteArray} (h : Digits s) {x : UInt8} (hx : x ∈ dat s) : 48 ≤ x.toNat ∧ x.toNat ≤ 57 := by
  obtain ⟨i, hi, e⟩ := List.getElem_of_mem hx
  have hi' : i < s.size := by rw [← dat_length]; exact hi
  have h1 := h i hi'
  have h2 := data_at s i hi'
  rw [List.getElem?_eq_getElem hi, e] at h2
  injection h2 with h2
  rw [← h2] at h1
  unfold dg at h1
  simp at h1
  omega

/-- The i-th number. -/
def num (a b c : ByteArray) : Nat → ByteArray := fun i => if i = 0 then a else if i = 1 then b else c
/-- Where the i-th number begins in the core (3: behind the core's end). -/
def beg (a b c : ByteArray) : Nat → Nat := fun i => if i = 0 then 0 else if i = 1 then a.size + 1 else if i = 2 then a.size + 1 + b.size + 1 else a.size + 1 + b.size + 1 + c.size + 1
/-- Where it ends. -/
def fin (a b c : ByteArray) : Nat → Nat := fun i => beg a b c i + (num a b c i).size

theorem dat_core (a b c : ByteArray) : dat (coreOf a b c) = dat a ++ [46] ++ dat b ++ [46] ++ dat c := by
  unfold coreOf; simp only [dat_append]; rfl

theorem core_size (a b c : ByteArray) : (coreOf a b c).size = a.size + 1 + b.size + 1 + c.size := by
  rw [← dat_length, dat_core]; simp [dat_length]; omega

theorem fin_two (a b c : ByteArray) : fin a b c 2 = (coreOf a b c).size := by
  rw [core_size]; simp [fin, beg, num]

theorem beg_next (a b c : ByteArray) (i : Nat) (h : i < 3) : beg a b c (i + 1) = fin a b c i + 1 := by
  match i, h with
  | 0, _ => simp [fin, beg, num]
  | 1, _ => simp [fin, beg, num]
  | 2, _ => simp [fin, beg, num]

theorem fin_le (a b c : ByteArray) (i : Nat) (h : i < 3) : fin a b c i ≤ (coreOf a b c).size := by
  rw [core_size]
  match i, h with
  | 0, _ => simp [fin, beg, num]; omega
  | 1, _ => simp [fin, beg, num]; omega
  | 2, _ => simp [fin, beg, num]

theorem fin_lt (a b c : ByteArray) (i : Nat) (h : i < 2) : fin a b c i < (coreOf a b c).size := by
  rw [core_size]
  match i, h with
  | 0, _ => simp [fin, beg, num]; omega
  | 1, _ => simp [fin, beg, num]; omega

/-- The core around the i-th number. -/
theorem core_parts (a b c : ByteArray) (i : Nat) (h : i < 3) : ∃ A D, dat (coreOf a b c) = A ++ dat (num a b c i) ++ D ∧ A.length = beg a b c i ∧ (i < 2 → ∃ D', D = 46 :: D') := by
  rw [dat_core]
  match i, h with
  | 0, _ => exact ⟨[], [46] ++ dat b ++ [46] ++ dat c, by simp [num], by simp [beg], fun _ => ⟨dat b ++ 46 :: dat c, by simp⟩⟩
  | 1, _ => exact ⟨dat a ++ [46], [46] ++ dat c, by simp [num], by simp [beg, dat_length], fun _ => ⟨dat c, by simp⟩⟩
  | 2, _ => exact ⟨dat a ++ [46] ++ dat b ++ [46], [], by simp [num], by simp [beg, dat_length]; omega, fun h => absurd h (by omega)⟩

/-- The core cut from the i-th number's begin to its end is that number. -/
theorem core_cut (a b c : ByteArray) (i : Nat) (h : i < 3) : (coreOf a b c).extract (beg a b c i) (fin a b c i) = num a b c i := by
  obtain ⟨A, D, e, hA, _⟩ := core_parts a b c i h
  apply eq_of_dat
  rw [dat_extract, e, ← hA, List.append_assoc, List.drop_left]
  have : fin a b c i - A.length = (dat (num a b c i)).length := by unfold fin; rw [dat_length]; omega
  rw [this, List.take_left]

theorem core_in (a b c : ByteArray) (i j : Nat) (h : i < 3) (h1 : beg a b c i ≤ j) (h2 : j < fin a b c i) : ∃ x, (dat (coreOf a b c))[j]? = some x ∧ x ∈ dat (num a b c i) := by
  obtain ⟨A, D, e, hA, _⟩ := core_parts a b c i h
  have hb : j - A.length < (dat (num a b c i)).length := by rw [dat_length]; unfold fin at h2; omega
  refine ⟨(dat (num a b c i))[j - A.length], ?_, List.getElem_mem hb⟩
  rw [e, List.append_assoc, List.getElem?_append_right (by omega), List.getElem?_append_left hb, List.getElem?_eq_getElem hb]

theorem core_dot (a b c : ByteArray) (i : Nat) (h : i < 2) : (dat (coreOf a b c))[fin a b c i]? = some 46 := by
  obtain ⟨A, D, e, hA, hD⟩ := core_parts a b c i (by omega)
  obtain ⟨D', rfl⟩ := hD h
  have : fin a b c i = (A ++ dat (num a b c i)).length := by unfold fin; rw [List.length_append, dat_length]; omega
  rw [e, List.getElem?_append_right (by omega), this]; simp

/-- Inside the i-th number the core holds no dot. -/
theorem core_nodot (a b c : ByteArray) (ha : Digits a) (hb : Digits b) (hc : Digits c) (i j : Nat) (h : i < 3) (h1 : beg a b c i ≤ j) (h2 : j < fin a b c i) (hj : j < (coreOf a b c).size) :
    ((((coreOf a b c)[j]'hj).toNat : Int) == 46) = false := by
  obtain ⟨x, hx, hm⟩ := core_in a b c i j h h1 h2
  rw [data_at _ _ hj] at hx
  injection hx with hx
  rw [hx]
  have : 48 ≤ x.toNat ∧ x.toNat ≤ 57 := by
    unfold num at hm
    split at hm
    · exact ha.mem hm
    · split at hm
      · exact hb.mem hm
      · exact hc.mem hm
  exact beq_eq_false_iff_ne.2 (by omega)

theorem core_isdot (a b c : ByteArray) (i : Nat) (h : i < 2) (hj : fin a b c i < (coreOf a b c).size) : ((((coreOf a b c)[fin a b c i]'hj).toNat : Int) == 46) = true := by
  have := core_dot a b c i h
  rw [data_at _ _ hj] at this
  injection this with this
  rw [this]; rfl

/-- No byte of the core is a dash. -/
theorem core_nodash (a b c : ByteArray) (ha : Digits a) (hb : Digits b) (hc : Digits c) (x : UInt8) (h : x ∈ dat (coreOf a b c)) : ((x.toNat : Int) != 45) = true := by
  rw [dat_core] at h
  have : x.toNat ≠ 45 := by
    simp only [List.mem_append, List.mem_singleton] at h
    rcases h with (((h | h) | h) | h) | h
    · have := ha.mem h; omega
    · rw [h]; decide
    · have := hb.mem h; omega
    · rw [h]; decide
    · have := hc.mem h; omega
  simp; omega

/-- A text that goes on behind the core: none of the core's places holds a dash. -/
theorem text_nodash {a b c t : ByteArray} {r : List UInt8} (ha : Digits a) (hb : Digits b) (hc : Digits c) (ht : dat t = dat (coreOf a b c) ++ r) (k : Nat) (hk : k < (coreOf a b c).size) (hkt : k < t.size) :
    (((t[k]'hkt).toNat : Int) != 45) = true := by
  have h1 := data_at t k hkt
  rw [ht, List.getElem?_append_left (by rw [dat_length]; exact hk)] at h1
  exact core_nodash a b c ha hb hc _ (List.mem_of_getElem? h1)

theorem text_size {a b c t : ByteArray} {r : List UInt8} (ht : dat t = dat (coreOf a b c) ++ r) : t.size = (coreOf a b c).size + r.length := by
  rw [← dat_length, ht, List.length_append, dat_length]

theorem text_core {a b c t : ByteArray} {r : List UInt8} (ht : dat t = dat (coreOf a b c) ++ r) : t.extract 0 (coreOf a b c).size = coreOf a b c := by
  apply eq_of_dat
  rw [dat_extract, ht, List.drop_zero, Nat.sub_zero, ← dat_length, List.take_left]

theorem text_dash {a b c t : ByteArray} {r : List UInt8} (ht : dat t = dat (coreOf a b c) ++ 45 :: r) (hk : (coreOf a b c).size < t.size) : (((t[(coreOf a b c).size]'hk).toNat : Int) != 45) = false := by
  have h1 := data_at t _ hk
  rw [ht, List.getElem?_append_right (by rw [dat_length]; exact Nat.le_refl _), dat_length, Nat.sub_self] at h1
  simp at h1
  rw [← h1]; rfl

theorem text_rest {a b c t p : ByteArray} (ht : dat t = dat (coreOf a b c) ++ 45 :: dat p) : t.extract ((coreOf a b c).size + 1) t.size = p := by
  apply eq_of_dat
  rw [dat_extract, ht]
  have e : dat (coreOf a b c) ++ 45 :: dat p = (dat (coreOf a b c) ++ [45]) ++ dat p := by simp
  have l : (coreOf a b c).size + 1 = (dat (coreOf a b c) ++ [45]).length := by simp [dat_length]
  rw [e, l, List.drop_left, List.take_of_length_le]
  rw [text_size ht, ← l]; simp [dat_length]; omega

theorem dat_text (a b c p : ByteArray) : dat (textOf a b c p) = dat (coreOf a b c) ++ 45 :: dat p := by
  unfold textOf; simp only [dat_append]; rfl
end Go.Proofs.Qxb6605634a
