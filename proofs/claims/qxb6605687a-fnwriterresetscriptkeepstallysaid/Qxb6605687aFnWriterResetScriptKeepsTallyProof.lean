/-
  THE PROOF OF Rows.FnWriterResetScriptKeepsTallySaid: the guide's frame at this function; the two slices are opened here; the walk lies in Qxb6605687aMain.
-/
import Derived.Test.Qxb6605687aMain
import Derived.Test.Qxb6605687aRows
import Derived.ProofKit
import Derived.OpenShut
import Derived.ShutString
import Derived.ChangeOld
import Derived.Deep.Strs
import Derived.Deep.Grids
namespace Go.Proofs.Qxb6605687a.fnWriterResetScriptKeepsTally
open Go.ChangeShapes Go.WideShapes Go.ChangeAt Go.RowKit
set_option linter.unusedVariables false
set_option maxRecDepth 100000

theorem own : ownKnob Try.prog.godebug = none := by kernel_rfl
theorem laidOut : laidOutB Try.prog = true := by kernel_rfl
theorem cells9 : Try.prog.cellsOf 9 = 1 := by kernel_rfl
theorem cells4 : Try.prog.cellsOf 4 = 1 := by kernel_rfl

/-- The slice of strings that came in. -/
theorem strs_of {H : Type} {enc : TypeId × Value → H} {W : World} {r : Reach} {b0 : Nat} {v : Value} {d : DataW H} {p : List MemPlace}
    (hv : Value.okWide Try.prog W r b0 22 v) (h : DataW.Trod enc Try.prog W 0 (fun _ => true) true 22 v d p) :
    ∃ (a : Option Addr) (l : List ByteArray) (c : Nat), v = .slice a l.length c ∧ l.length ≤ maxLen ∧ SRow W a l := by
  obtain ⟨a0, len, cap, rfl⟩ := okWide_slice Try.underlying22 hv
  obtain ⟨fuel, hf⟩ := h
  rcases Deep.open_strs Try.underlying22 Try.underlying9 cells9 hf with ⟨hcs, _⟩ | ⟨a, len', cap', m, Sx, hcs, _, hl, hm, hmm, _, hc⟩
  · simp [Value.cells] at hcs
    obtain ⟨rfl, rfl, rfl⟩ := hcs
    exact ⟨none, [], 0, rfl, by simp, .inl rfl⟩
  · simp [Value.cells] at hcs
    obtain ⟨rfl, rfl, rfl⟩ := hcs
    have hmc : m = cap := by simpa using hmm
    by_cases h0 : len = 0
    · subst h0
      exact ⟨some a, [], cap, rfl, by simp, .inl rfl⟩
    · obtain ⟨b, off, spot⟩ := a
      have hspot : spot = none := by simpa [Addr.add] using World.cell?_spot (hc 0 (by omega)).1
      subst hspot
      refine ⟨_, (List.range len).map Sx, cap, by simp, by simp; omega, .inr ⟨b, off, rfl, fun i hi => ?_⟩⟩
      have hi' : i < len := by simpa using hi
      have := (hc i (by omega)).1
      rw [WideShapes.add_plain] at this
      rw [this]
      simp [List.getD_eq_getElem?_getD, hi']

/-- The slice of bools that came in. -/
theorem bools_of {H : Type} {enc : TypeId × Value → H} {W : World} {r : Reach} {b0 : Nat} {v : Value} {d : DataW H} {p : List MemPlace}
    (hv : Value.okWide Try.prog W r b0 23 v) (h : DataW.Trod enc Try.prog W 0 (fun _ => true) true 23 v d p) :
    ∃ (a : Option Addr) (l : List Bool) (c : Nat), v = .slice a l.length c ∧ l.length ≤ maxLen ∧ BRow W a l := by
  obtain ⟨a0, len, cap, rfl⟩ := okWide_slice Try.underlying23 hv
  obtain ⟨fuel, hf⟩ := h
  rcases Deep.open_bools Try.underlying23 Try.underlying4 cells4 hf with ⟨hcs, _⟩ | ⟨a, len', cap', B, hcs, _, hl, hm, _, hc⟩
  · simp [Value.cells] at hcs
    obtain ⟨rfl, rfl, rfl⟩ := hcs
    exact ⟨none, [], 0, rfl, by simp, .inl rfl⟩
  · simp [Value.cells] at hcs
    obtain ⟨rfl, rfl, rfl⟩ := hcs
    by_cases h0 : len = 0
    · subst h0
      exact ⟨some a, [], cap, rfl, by simp, .inl rfl⟩
    · obtain ⟨b, off, spot⟩ := a
      have hspot : spot = none := by simpa [Addr.add] using World.cell?_spot (hc 0 (by omega))
      subst hspot
      refine ⟨_, (List.range len).map B, cap, by simp, by simp; omega, .inr ⟨b, off, rfl, fun i hi => ?_⟩⟩
      have hi' : i < len := by simpa using hi
      have := hc i (by omega)
      rw [WideShapes.add_plain] at this
      rw [this]
      simp [List.getD_eq_getElem?_getD, hi']

theorem walk (a ra : Option Addr) (l : List ByteArray) (rl : List Bool) (c rc : Nat) (w : World) (h : SRow w a l) (hr : BRow w ra rl) (hl : l.length ≤ maxLen) (hrl : rl.length ≤ maxLen) :
    Calls Try.prog 3 #[.slice a l.length c, .slice ra rl.length rc] w fun e w' => e = .returned (.bool true) ∧ Below w.heap.size w w' := by
  unfold maxLen at hl hrl
  by_cases hb : 65536 < l.length ∨ 1048576 < rl.length ∨ 1048576 < 16 * l.length + rl.length
  · exact tally_out a ra l c rl.length rc w h (by omega) (by omega) hb
  · exact tally_main a ra l rl c rc w h hr (by omega) (by omega)

theorem lifted (os : Os) (started : os.Started) (H : Type) (enc : TypeId × Value → H) :
    ReturnsInHanded {} Try.checked os 3 .any (Rows.fnWriterResetScriptKeepsTallySpec.pre6 enc Try.prog Try.f3 Rows.fnWriterResetScriptKeepsTallyRow.domain false) (Rows.fnWriterResetScriptKeepsTallySpec.post enc Try.prog Try.f3 false true false false) := by
  refine returnsInHanded_of_change (C := Try.checked) own started (by kernel_rfl) Try.func3
    (ChangeSpec.witness6 (enc := enc) (C := Try.checked) false ⟨#[], #[.slice none 0 0, .slice none 0 0], []⟩ 8 (by kernel_rfl) (by kernel_rfl) (by kernel_rfl) (by kernel_rfl)) ?_
  intro W base args ds gs before hval0 hW hcnd _
  have hval : ∀ (j : Nat) t v, Try.f3.params[j]? = some t → args[j]? = some v → Value.okWide Try.prog W .any base t v := hval0
  have hW' := hW
  obtain ⟨p, q, hA0, hV, rfl, hfz, hnd⟩ := hW
  have hA : DataW.TrodAll enc Try.prog W 0 (fun _ => true) true Try.f3.params.toList args.toList ds p := hA0
  rw [Try.params3] at hA hval
  obtain ⟨v0, vs0, d0, ds0, p0, q0, hargs, rfl, rfl, h0, r0⟩ := trodAll_cons hA
  obtain ⟨v1, vs1, d1, ds1, p1, q1, rfl, rfl, rfl, h1, r1⟩ := trodAll_cons r0
  obtain ⟨rfl, rfl, rfl⟩ := trodAll_nil r1
  obtain rfl : args = #[v0, v1] := by cases args; simp_all
  obtain ⟨rfl, rfl⟩ := trodVars_none hV
  obtain ⟨a, l, c, rfl, hl, hS⟩ := strs_of (hval 0 22 v0 rfl rfl) h0
  obtain ⟨ra, rl, rc, rfl, hrl, hR⟩ := bools_of (hval 1 23 v1 rfl rfl) h1
  have lt0 : ∀ x ∈ p0, x.block < W.heap.size := by obtain ⟨m, hm⟩ := h0; exact DataW.trod_lt m _ _ _ hm
  have lt1 : ∀ x ∈ p1, x.block < W.heap.size := by obtain ⟨m, hm⟩ := h1; exact DataW.trod_lt m _ _ _ hm
  clear hA0 hval0
  refine (walk a ra l rl c rc W hS hR hl hrl).mono fun e W' ⟨he, bel⟩ => ?_
  subst he
  exact ⟨_, rfl, _, _, _, [], _, [], hW', trodAll_mk1 (shut_bool Try.underlying4 _), (trodAll_cons_mk (Below.trod laidOut (by kernel_rfl) (of_decide_eq_true (by kernel_rfl)) h0 bel lt0) (trodAll_cons_mk (Below.trod laidOut (by kernel_rfl) (of_decide_eq_true (by kernel_rfl)) h1 bel lt1) trodAll_mk0)), rfl, bel.frame _, fun h => by cases h⟩

theorem over : Rows.fnWriterResetScriptKeepsTallyRow.holds Try.pinned (OpenSpec.ofChange Rows.fnWriterResetScriptKeepsTallySpec) :=
  OpenClaim.holds_of_wide 3 Try.f3 rfl rfl rfl rfl rfl rfl rfl ⟨rfl, rfl, rfl, rfl, rfl⟩ rfl rfl rfl rfl rfl (by kernel_rfl) Try.func3 (by kernel_rfl)
    (of_decide_eq_true (by kernel_rfl)) (by unfold Func.isWrapper; first | (rw [if_pos (by decide +kernel)]; kernel_rfl) | (rw [if_neg (by decide +kernel)]; exact ⟨rfl, rfl⟩))
    (fun os started H enc _ => lifted os started H enc)

/-- THE STATEMENT. -/
theorem proved : Rows.FnWriterResetScriptKeepsTallySaid := over
#print axioms proved
end Go.Proofs.Qxb6605687a.fnWriterResetScriptKeepsTally
