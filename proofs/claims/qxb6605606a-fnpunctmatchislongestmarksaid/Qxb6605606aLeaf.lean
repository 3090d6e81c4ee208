import Derived.Test.Qxb6605606aChecked
import Derived.Test.Qxb6605606aPlain
import Derived.WalkKit
import Derived.Deep.QuietTactic
import Derived.BigQuiet
import Derived.Deep.LoopGhost
import Derived.WalkLawsBesides
import Derived.Lib.Strings
namespace Go.Proofs.Qxb6605606a
open Go.RowKit

/-- The bytes of a string. -/
def dat (s : ByteArray) : List UInt8 := s.data.toList

theorem dat_length (s : ByteArray) : (dat s).length = s.size := (Lib.size_eq s).symm

theorem isPre_iff (s p : ByteArray) : Pm.isPre (dat s) (dat p) = true ↔ p.size ≤ s.size ∧ ∀ j, j < p.size → s.data[j]? = p.data[j]? := by
  unfold Pm.isPre dat
  rw [List.isPrefixOf_iff_prefix, List.prefix_iff_getElem?]
  constructor
  · intro h
    have hl : p.size ≤ s.size := by
      rcases Nat.lt_or_ge s.size p.size with hlt | hge
      · have h1 := h s.size (by rw [← Lib.size_eq]; exact hlt)
        rw [List.getElem?_eq_none (by rw [← Lib.size_eq]; exact Nat.le_refl _)] at h1
        cases h1
      · exact hge
    refine ⟨hl, fun j hj => ?_⟩
    have h1 := h j (by rw [← Lib.size_eq]; exact hj)
    have e2 : p.data[j]? = some (p.data.toList[j]'(by rw [← Lib.size_eq]; exact hj)) := by
      rw [← Array.getElem?_toList, List.getElem?_eq_getElem]
    rw [e2, ← h1, Array.getElem?_toList]
  · rintro ⟨_, h⟩ i hi
    rw [Array.getElem?_toList, h i (by rw [Lib.size_eq]; exact hi), ← Array.getElem?_toList, List.getElem?_eq_getElem]

theorem data_at (s : ByteArray) (k : Nat) (h : k < s.size) : s.data[k]? = some (s[k]'h) := by
  rw [Array.getElem?_eq_getElem (show k < s.data.size from h)]; rfl

theorem pre_short (s p : ByteArray) (h : s.size < p.size) : Pm.isPre (dat s) (dat p) = false := by
  rw [Bool.eq_false_iff]; intro hc; have := ((isPre_iff s p).1 hc).1; omega

theorem pre_part (s p : ByteArray) (k : Nat) (hk : k < p.size) (hs : k < s.size) (h : (((s[k]'hs).toNat : Int) != ((p[k]'hk).toNat : Int)) = true) : Pm.isPre (dat s) (dat p) = false := by
  rw [Bool.eq_false_iff]; intro hc
  have h1 := ((isPre_iff s p).1 hc).2 k hk
  rw [data_at s k hs, data_at p k hk] at h1
  injection h1 with h1
  rw [h1] at h
  simp at h

theorem pre_step (s p : ByteArray) (k : Nat) (hk : k < p.size) (hs : k < s.size) (h : (((s[k]'hs).toNat : Int) != ((p[k]'hk).toNat : Int)) = false) (ih : ∀ j, j < k → s.data[j]? = p.data[j]?) :
    ∀ j, j < k + 1 → s.data[j]? = p.data[j]? := by
  intro j hj
  by_cases e : j = k
  · subst e
    rw [data_at s j hs, data_at p j hk]
    have h1 : ((s[j]'hs).toNat : Int) = ((p[j]'hk).toNat : Int) := by simpa using h
    congr 1
    exact UInt8.toNat_inj.1 (by omega)
  · exact ih j (by omega)

theorem ret_bool {a b : Bool} (h : a = b) : Ending.returned (.bool a) = .returned (.bool b) := by rw [h]

set_option maxHeartbeats 400000 in
/-- hasPrefixStr: does s start with p? -/
theorem hasPrefixStr_any (s p : ByteArray) (w : World) (hs : s.size ≤ 9223372036854775807) :
    Calls Try.prog 15 #[.string s, .string p] w fun e w' => e = .returned (.bool (Pm.isPre (dat s) (dat p))) ∧ ∃ n, w' = w.drewN n := by
  by_cases hl : s.size < p.size
  · have H : Hid (Pm.isPre (dat s) (dat p) = false) := pre_short s p hl
    go_enter Try.func15, Try.ntmps15
    go_wp2
    go_ret
    exact ⟨by rw [H.out]; rfl, 0, rfl⟩
  · go_enter Try.func15, Try.ntmps15
    go_wp2
    go_loopw [5] (fun i wr => ∃ k n : Nat, k ≤ p.size ∧ i = .int .i64 k ∧ wr = w.drewN n ∧ ∀ j, j < k → s.data[j]? = p.data[j]?) (fun i _ => p.size - (intOf i).toNat)
    case atStart => exact ⟨0, 0, Nat.zero_le _, rfl, rfl, fun j hj => absurd hj (Nat.not_lt_zero _)⟩
    case round =>
      obtain ⟨k, n, hk, rfl, rfl, heq⟩ := hrel
      have HE : Hid (∀ j, j < k → s.data[j]? = p.data[j]?) := heq
      clear heq
      by_cases hlt : k < p.size
      · have hks : k < s.size := by omega
        go_wp2
        go_quiet (fail)
        go_wp2
        · have hne : (((s[k]'hks).toNat : Int) != ((p[k]'hlt).toNat : Int)) = true := by assumption
          go_ret
          exact ⟨by rw [pre_part s p k hlt hks hne]; rfl, n + nq, by simp⟩
        · have hne : (((s[k]'hks).toNat : Int) != ((p[k]'hlt).toNat : Int)) = false := by assumption
          go_roundw
          case rel => exact ⟨k + 1, n + nq, by omega, by go_num, rfl, pre_step s p k hlt hks hne HE.out⟩
          case measure => simp [intOf]; omega
      · obtain rfl : k = p.size := by omega
        go_wp2
        go_ret
        exact ⟨by rw [(isPre_iff s p).2 ⟨by omega, HE.out⟩]; rfl, n, rfl⟩

set_option maxHeartbeats 1000000 in
/-- strings.HasPrefix. -/
theorem hasPrefix28 (s p : ByteArray) (w : World) :
    Calls Try.prog 28 #[.string s, .string p] w fun e w' => e = .returned (.bool (Pm.isPre (dat s) (dat p))) ∧ w = w' := by
  show Calls Try.prog 28 #[.string s, .string p] w fun e w' => e = .returned (.bool (Lib.hasPrefix s.data.toList p.data.toList)) ∧ w = w'
  rw [← Lib.hasPrefix_raw]
  by_cases h : p.size ≤ s.size
  · go_enter Try.func28, Try.ntmps28
    go_wp2
    go_ret
    exact ⟨by simp [h], rfl⟩
  · go_enter Try.func28, Try.ntmps28
    go_wp2
    go_ret
    exact ⟨by simp [h], rfl⟩

end Go.Proofs.Qxb6605606a
