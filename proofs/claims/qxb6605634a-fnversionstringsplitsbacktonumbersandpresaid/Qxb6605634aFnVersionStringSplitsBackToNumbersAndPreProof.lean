/-
  THE PROOF OF Rows.FnVersionStringSplitsBackToNumbersAndPreSaid: the guide's frame at this function; the array of three strings is opened here; the walk lies in Qxb6605634aMain.
-/
import Derived.Test.Qxb6605634aMain
import Derived.Test.Qxb6605634aRows
import Derived.ProofKit
import Derived.OpenShut
import Derived.ShutString
import Derived.ChangeOld
namespace Go.Proofs.Qxb6605634a.fnVersionStringSplitsBackToNumbersAndPre
open Go.ChangeShapes Go.WideShapes Go.ChangeAt Go.RowKit
open Go.ChangeMaps (open_string shut_string)
set_option linter.unusedVariables false

theorem own : ownKnob Try.prog.godebug = none := by kernel_rfl
theorem laidOut : laidOutB Try.prog = true := by kernel_rfl
theorem cells23 : Try.prog.cellsOf 23 = 3 := by kernel_rfl
theorem cells9 : Try.prog.cellsOf 9 = 1 := by kernel_rfl

theorem array3 {xs : Array Value} (h : xs.size = 3) : ∃ x y z, xs = #[x, y, z] := by
  obtain ⟨l⟩ := xs
  match l, h with
  | [x, y, z], _ => exact ⟨x, y, z, rfl⟩

set_option maxRecDepth 100000
/-- The array that came in: three strings. -/
theorem arr_of {H : Type} {enc : TypeId × Value → H} {W : World} {r : Reach} {b0 : Nat} {v : Value} {d : DataW H} {p : List MemPlace}
    (hv : Value.okWide Try.prog W r b0 23 v) (h : DataW.Trod enc Try.prog W 0 (fun _ => true) true 23 v d p) :
    ∃ a b c : ByteArray, v = .agg #[.string a, .string b, .string c] ∧ a.size ≤ maxLen ∧ b.size ≤ maxLen ∧ c.size ≤ maxLen := by
  simp only [Value.okWide, Try.underlying23] at hv
  obtain ⟨xs, rfl, hsz, _⟩ := hv
  rw [cells23] at hsz
  obtain ⟨x, y, z, rfl⟩ := array3 hsz
  obtain ⟨fuel, hf⟩ := h
  obtain ⟨ys, m, _, _, _, hlen, hi⟩ := DataW.trod_array Try.underlying23 hf
  have h0 := hi 0 (by omega)
  have h1 := hi 1 (by omega)
  have h2 := hi 2 (by omega)
  simp only [cells9, Nat.mul_one, Value.cells] at h0 h1 h2
  rw [List.getElem?_eq_getElem (by omega)] at h0 h1 h2
  obtain ⟨a, e0, _, s0⟩ := DataW.trod_string Try.underlying9 h0
  obtain ⟨b, e1, _, s1⟩ := DataW.trod_string Try.underlying9 h1
  obtain ⟨c, e2, _, s2⟩ := DataW.trod_string Try.underlying9 h2
  simp at e0 e1 e2
  subst e0 e1 e2
  exact ⟨a, b, c, rfl, s0, s1, s2⟩

theorem walk (a b c p : ByteArray) (w : World) (ha : a.size ≤ maxLen) (hb : b.size ≤ maxLen) (hc : c.size ≤ maxLen) (hp : p.size ≤ maxLen) :
    Calls Try.prog 7 #[.agg #[.string a, .string b, .string c], .string p] w fun e w' => e = .returned (.bool true) ∧ Below w.heap.size w w' := by
  unfold maxLen at ha hb hc hp
  by_cases h : p.size = 0
  · have e : p = ⟨#[]⟩ := by
      have : p.data = #[] := Array.eq_empty_of_size_eq_zero h
      cases p; simp at this; rw [this]
    exact main_any a b c p _ w (by omega) (by omega) (by omega) (by omega) (.inl ⟨e, rfl⟩)
  · refine main_any a b c p _ w (by omega) (by omega) (by omega) (by omega) (.inr ⟨?_, rfl⟩)
    rw [Lib.toList_data]
    cases e : p.data.toList with
    | nil => rw [Lib.size_eq, e] at h; simp at h
    | cons _ _ => rfl

theorem lifted (os : Os) (started : os.Started) (H : Type) (enc : TypeId × Value → H) :
    ReturnsInHanded {} Try.checked os 7 .any (Rows.fnVersionStringSplitsBackToNumbersAndPreSpec.pre6 enc Try.prog Try.f7 Rows.fnVersionStringSplitsBackToNumbersAndPreRow.domain false) (Rows.fnVersionStringSplitsBackToNumbersAndPreSpec.post enc Try.prog Try.f7 false true false false) := by
  refine returnsInHanded_of_change (C := Try.checked) own started (by kernel_rfl) Try.func7
    (ChangeSpec.witness6 (enc := enc) (C := Try.checked) false ⟨#[], #[.agg #[.string ByteArray.empty, .string ByteArray.empty, .string ByteArray.empty], .string ByteArray.empty], []⟩ 8 (by kernel_rfl) (by kernel_rfl) (by kernel_rfl) (by kernel_rfl)) ?_
  intro W base args ds gs before hval0 hW hcnd _
  have hval : ∀ (j : Nat) t v, Try.f7.params[j]? = some t → args[j]? = some v → Value.okWide Try.prog W .any base t v := hval0
  have hW' := hW
  obtain ⟨p, q, hA0, hV, rfl, hfz, hnd⟩ := hW
  have hA : DataW.TrodAll enc Try.prog W 0 (fun _ => true) true Try.f7.params.toList args.toList ds p := hA0
  rw [Try.params7] at hA hval
  obtain ⟨v0, vs0, d0, ds0, p0, q0, hargs, rfl, rfl, h0, r0⟩ := trodAll_cons hA
  obtain ⟨v1, vs1, d1, ds1, p1, q1, rfl, rfl, rfl, h1, r1⟩ := trodAll_cons r0
  obtain ⟨rfl, rfl, rfl⟩ := trodAll_nil r1
  obtain rfl : args = #[v0, v1] := by cases args; simp_all
  obtain ⟨rfl, rfl⟩ := trodVars_none hV
  obtain ⟨a, b, c, rfl, sa, sb, sc⟩ := arr_of (hval 0 23 v0 rfl rfl) h0
  obtain ⟨s1, rfl, rfl, rfl, hs1⟩ := open_string Try.underlying9 (hval 1 9 v1 rfl rfl) h1
  have lt0 : ∀ x ∈ p0, x.block < W.heap.size := by obtain ⟨m, hm⟩ := h0; exact DataW.trod_lt m _ _ _ hm
  clear hA0 hval0
  refine (walk a b c s1 W sa sb sc hs1).mono fun e W' ⟨he, bel⟩ => ?_
  subst he
  exact ⟨_, rfl, _, _, _, [], _, [], hW', trodAll_mk1 (shut_bool Try.underlying4 _), (trodAll_cons_mk (Below.trod laidOut (by kernel_rfl) (of_decide_eq_true (by kernel_rfl)) h0 bel lt0) (trodAll_cons_mk (shut_string Try.underlying9 hs1) trodAll_mk0)), rfl, bel.frame _, fun h => by cases h⟩

theorem over : Rows.fnVersionStringSplitsBackToNumbersAndPreRow.holds Try.pinned (OpenSpec.ofChange Rows.fnVersionStringSplitsBackToNumbersAndPreSpec) :=
  OpenClaim.holds_of_wide 7 Try.f7 rfl rfl rfl rfl rfl rfl rfl ⟨rfl, rfl, rfl, rfl, rfl⟩ rfl rfl rfl rfl rfl (by kernel_rfl) Try.func7 (by kernel_rfl)
    (of_decide_eq_true (by kernel_rfl)) (by unfold Func.isWrapper; first | (rw [if_pos (by decide +kernel)]; kernel_rfl) | (rw [if_neg (by decide +kernel)]; exact ⟨rfl, rfl⟩))
    (fun os started H enc _ => lifted os started H enc)

/-- THE STATEMENT. -/
theorem proved : Rows.FnVersionStringSplitsBackToNumbersAndPreSaid := over
#print axioms proved
end Go.Proofs.Qxb6605634a.fnVersionStringSplitsBackToNumbersAndPre
