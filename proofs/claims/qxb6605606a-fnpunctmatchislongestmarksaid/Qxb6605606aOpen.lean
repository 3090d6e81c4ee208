import Derived.Test.Qxb6605606aLong
import Derived.Test.Qxb6605606aRows
import Derived.ProofKit
import Derived.OpenShut
import Derived.ShutString
import Derived.ChangeOld
import Derived.Deep.Strs
namespace Go.Proofs.Qxb6605606a
open Go.ChangeShapes Go.WideShapes Go.ChangeAt Go.RowKit

theorem Try.own : ownKnob Try.prog.godebug = none := by kernel_rfl
theorem Try.laidOut : laidOutB Try.prog = true := by kernel_rfl
theorem Try.cells23 : Try.prog.cellsOf 23 = 128 := by kernel_rfl
theorem Try.cells22 : Try.prog.cellsOf 22 = 1 := by kernel_rfl
theorem Try.cells9 : Try.prog.cellsOf 9 = 1 := by kernel_rfl

theorem take_one {α : Type} (l : List α) (i : Nat) (h : i < l.length) : (l.drop i).take 1 = [l[i]] := by
  rw [List.drop_eq_getElem_cons h]; rfl

/-- A cell that reads as a slice of strings. -/
theorem strRow_of {H : Type} {enc : TypeId × Value → H} {W : World} {fuel : Nat} {v : Value} {x : DataW H × List MemPlace}
    (h : DataW.trod enc Try.prog W 0 (fun _ => true) true fuel 22 [v] = some x) : ∃ l, StrRow W v l := by
  rcases Deep.open_strs Try.underlying22 Try.underlying9 Try.cells9 h with ⟨hcs, _⟩ | ⟨a, len, cap, m, Sx, hcs, _, hl, hm, hmm, _, hc⟩
  · refine ⟨[], by simp, .inl ⟨rfl, none, 0, ?_⟩⟩
    simpa using hcs
  · have hv : v = .slice (some a) len cap := by simpa using hcs
    have hmc : m = cap := by simpa using hmm
    unfold maxLen at hm
    by_cases h0 : len = 0
    · subst h0
      exact ⟨[], by simp, .inl ⟨rfl, some a, cap, hv⟩⟩
    · obtain ⟨b, off, spot⟩ := a
      have hspot : spot = none := by simpa [Addr.add] using World.cell?_spot (hc 0 (by omega)).1
      subst hspot
      refine ⟨(List.range len).map Sx, by simp; omega, .inr ⟨b, off, cap, by simpa using hv, fun i hi => ?_⟩⟩
      have hi' : i < len := by simpa using hi
      have := (hc i (by omega)).1
      rw [WideShapes.add_plain] at this
      rw [this]
      simp [List.getD_eq_getElem?_getD, hi']

/-- The array that came in. -/
theorem arr_of {H : Type} {enc : TypeId × Value → H} {W : World} {r : Reach} {b0 : Nat} {v : Value} {d : DataW H} {p : List MemPlace}
    (hv : Value.okWide Try.prog W r b0 23 v) (h : DataW.Trod enc Try.prog W 0 (fun _ => true) true 23 v d p) : ∃ xs R, v = .agg xs ∧ Arr W xs R := by
  simp only [Value.okWide, Try.underlying23] at hv
  obtain ⟨xs, rfl, hsz, _⟩ := hv
  rw [Try.cells23] at hsz
  obtain ⟨fuel, hf⟩ := h
  obtain ⟨ys, m, _, _, _, hlen, hi⟩ := DataW.trod_array Try.underlying23 hf
  have each : ∀ c, c < 128 → ∃ l : List ByteArray, ∃ v, xs[c]? = some v ∧ StrRow W v l := fun c hc => by
    have h1 := hi c hc
    rw [Try.cells22, Nat.mul_one] at h1
    have e : (Value.agg xs).cells.toList = xs.toList := rfl
    rw [e, take_one _ _ (by simp; omega), List.getElem?_eq_getElem (by omega)] at h1
    obtain ⟨l, hl⟩ := strRow_of h1
    exact ⟨l, xs.toList[c]'(by simp; omega), by simp [hsz, hc], hl⟩
  obtain ⟨R, hR⟩ := Deep.choose_lt each
  exact ⟨xs, R, rfl, hsz, hR⟩
end Go.Proofs.Qxb6605606a
