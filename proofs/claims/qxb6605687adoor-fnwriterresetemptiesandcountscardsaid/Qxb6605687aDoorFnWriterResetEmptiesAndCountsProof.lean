/-
  THE PROOF OF Rows.FnWriterResetEmptiesAndCountsCardSaid: the row by the guide's frame, its one table that is read (internal/strconv.uint64pow10) taken from the row's cell 'laid'; the card by the builder over the given tie. The walk lies in Qxb6605687aDoorMain.
-/
import Derived.Test.Qxb6605687aDoorMain
import Derived.Test.Qxb6605687aDoorTie
import Derived.Test.Qxb6605687aDoorCards
import Derived.ProofKit
import Derived.LaidMore
import Derived.Lay
import Derived.OpenShut
import Derived.ShutString
import Derived.ChangeOld
import Derived.Stop.Joined
import Derived.Lib.LaidTab
import Derived.SevenTiedAt
namespace Go.Proofs.Qxb6605687aDoor.fnWriterResetEmptiesAndCounts
open Go.ChangeShapes Go.WideShapes Go.ChangeAt Go.RowKit
open Go.ChangeMaps (open_string shut_string)
set_option linter.unusedVariables false
set_option maxRecDepth 100000

theorem own : ownKnob Tryd.prog.godebug = none := by kernel_rfl
theorem laidOut : laidOutB Tryd.prog = true := by kernel_rfl
theorem gPow : Tryd.prog.globalNamed tabName = some 5 := by kernel_rfl
theorem tPow : (Tryd.prog.globals[5]?).map (·.type) = some 130 := by kernel_rfl
theorem cells130 : Tryd.prog.cellsOf 130 = 20 := by kernel_rfl
theorem cells62 : Tryd.prog.cellsOf 62 = 1 := by kernel_rfl
theorem powIs : (Rows.laid_internal_strconv_uint64pow10 : DataW Unit) = Lib.tabData .u64 Lib.pow10Tab := rfl

abbrev laid3 : List (String × DataW Unit) := Rows.fnWriterResetEmptiesAndCountsRow.laid

/-- The witness's arguments: two empty strings and 0. -/
abbrev args0 : Array Value := #[.string ⟨#[]⟩, .int .i64 0, .string ⟨#[]⟩]
theorem start_shaped1 (os : Os) : ((World.laidAll Tryd.prog os laid3).forCall (fun _ _ => 0) ⟨#[], args0, []⟩).variablesZipB Tryd.prog = true := by kernel_rfl
theorem start_shaped2 (os : Os) : (((World.laidAll Tryd.prog os laid3).forCall (fun _ _ => 0) ⟨#[], args0, []⟩).heap.toList.drop Tryd.prog.globals.size).take ((begin Tryd.prog (fun _ _ => 0) default).world.heap.size - Tryd.prog.globals.size) = (begin Tryd.prog (fun _ _ => 0) default).world.heap.toList.drop Tryd.prog.globals.size := by kernel_rfl
theorem start_ok (os : Os) : Input.okWideB Tryd.prog ((World.laidAll Tryd.prog os laid3).forCall (fun _ _ => 0) ⟨#[], args0, []⟩) 3 ⟨#[], args0, []⟩ = true := by kernel_rfl
theorem start_pre (os : Os) (H : Type) (enc : TypeId × Value → H) : Rows.fnWriterResetEmptiesAndCountsSpec.preB enc Tryd.prog Tryd.f3 [] false ((World.laidAll Tryd.prog os laid3).forCall (fun _ _ => 0) ⟨#[], args0, []⟩).memory args0 8 = true := by kernel_rfl
theorem start_sized (os : Os) (H : Type) (enc : TypeId × Value → H) : Rows.fnWriterResetEmptiesAndCountsSpec.sizedB enc Tryd.prog Tryd.f3 false ((World.laidAll Tryd.prog os laid3).forCall (fun _ _ => 0) ⟨#[], args0, []⟩).memory args0 8 = true := by kernel_rfl
theorem start_met (os : Os) : laidMetH Tryd.prog laid3 ((World.laidAll Tryd.prog os laid3).forCall (fun _ _ => 0) ⟨#[], args0, []⟩).memory := by
  rw [MakeChecks.laidMetH_plain _ _ _ (by kernel_rfl)]
  exact laidMet_laidAll _ (by kernel_rfl) (by kernel_rfl)

/-- What the condition gives the walk: the table of powers of ten. -/
theorem of_laid {W : World} (h : laidMetH Tryd.prog laid3 W) : Lib.TabIs Tryd.prog W tabName .u64 Lib.pow10Tab := by
  rw [MakeChecks.laidMetH_plain _ _ _ (by kernel_rfl)] at h
  obtain ⟨ps, ⟨g0, t0, cs0, f0, p0, q0, hg0, ht0, hv0, hd0, ⟨g1, t1, cs1, f1, p1, q1, hg1, ht1, hv1, hd1, ⟨g2, t2, cs2, f2, p2, q2, hg2, ht2, hv2, hd2, _, _⟩, _⟩, _⟩, _⟩ := h
  obtain rfl := Option.some.inj (gPow.symm.trans hg2)
  obtain rfl := Option.some.inj (tPow.symm.trans ht2)
  refine hv2.trans ?_
  rw [← Lib.cells_of_tab Tryd.underlying130 Tryd.underlying62 cells62 cells130 (powIs ▸ hd2)]

theorem walk (s t : ByteArray) (n : Int) (w : World) (h0 : -9223372036854775808 ≤ n) (h1 : n ≤ 9223372036854775807) (hs : s.size ≤ maxLen) (ht : t.size ≤ maxLen)
    (htab : Lib.TabIs Tryd.prog w tabName .u64 Lib.pow10Tab) :
    Calls Tryd.prog 3 #[.string s, .int .i64 n, .string t] w fun e w' => e = .returned (.bool true) ∧ Below w.heap.size w w' := by
  unfold maxLen at hs ht
  by_cases h : 1048576 < s.size + t.size
  · exact law_out s t n w hs ht h
  · exact law_main s t n w h0 h1 (by omega) (Lib.tabBelow_of_tabIs htab)

theorem lifted (os : Os) (started : os.Started) (H : Type) (enc : TypeId × Value → H) :
    ReturnsInHanded {} Tryd.checked os 3 .any (fun w args => (Rows.fnWriterResetEmptiesAndCountsSpec.pre enc Tryd.prog Tryd.f3 [] false w args ∧ laidMetH Tryd.prog laid3 w) ∧ sizedMet enc Tryd.prog Tryd.f3 (OpenSpec.ofChange Rows.fnWriterResetEmptiesAndCountsSpec) false w args)
      (Rows.fnWriterResetEmptiesAndCountsSpec.post enc Tryd.prog Tryd.f3 false true false false) := by
  refine returnsInHanded_of_change_and (C := Tryd.checked) (X := fun w _ => laidMetH Tryd.prog laid3 w) (fun _ _ _ hh h => h.of_heap hh) own started (by kernel_rfl) Tryd.func3
    (ChangeSpec.witness_shaped (enc := enc) (C := Tryd.checked) (os := os) (X := fun w _ => laidMetH Tryd.prog laid3 w) false (World.laidAll Tryd.prog os laid3) args0 8 rfl (World.shaped_of_ZipB (start_shaped1 os) (start_shaped2 os)) (start_ok os) (start_pre os H enc) (start_sized os H enc) (start_met os)) ?_
  intro W base args ds gs before hval0 hW _ _ hL _
  have hval : ∀ (j : Nat) t v, Tryd.f3.params[j]? = some t → args[j]? = some v → Value.okWide Tryd.prog W .any base t v := hval0
  have hW' := hW
  obtain ⟨p, q, hA0, hV, rfl, hfz, hnd⟩ := hW
  have hA : DataW.TrodAll enc Tryd.prog W 0 (fun _ => true) true Tryd.f3.params.toList args.toList ds p := hA0
  rw [Tryd.params3] at hA hval
  obtain ⟨v0, vs0, d0, ds0, p0, q0, hargs, rfl, rfl, h0, r0⟩ := trodAll_cons hA
  obtain ⟨v1, vs1, d1, ds1, p1, q1, rfl, rfl, rfl, h1, r1⟩ := trodAll_cons r0
  obtain ⟨v2, vs2, d2, ds2, p2, q2, rfl, rfl, rfl, h2, r2⟩ := trodAll_cons r1
  obtain ⟨rfl, rfl, rfl⟩ := trodAll_nil r2
  obtain rfl : args = #[v0, v1, v2] := by cases args; simp_all
  obtain ⟨rfl, rfl⟩ := trodVars_none hV
  obtain ⟨s, rfl, rfl, rfl, hs⟩ := open_string Tryd.underlying9 (hval 0 9 v0 rfl rfl) h0
  obtain ⟨n, rfl, rfl, rfl, hn⟩ := open_int Tryd.underlying2 (hval 1 2 v1 rfl rfl) h1
  obtain ⟨t, rfl, rfl, rfl, ht⟩ := open_string Tryd.underlying9 (hval 2 9 v2 rfl rfl) h2
  obtain ⟨n0, n1⟩ := bounds_i64 hn
  have htab := of_laid hL
  clear hA0 hval0
  refine (walk s t n W n0 n1 hs ht htab).mono fun e W' ⟨he, bel⟩ => ?_
  subst he
  exact ⟨_, rfl, _, _, _, [], _, [], hW', trodAll_mk1 (shut_bool Tryd.underlying4 _), (trodAll_cons_mk (shut_string Tryd.underlying9 hs) (trodAll_cons_mk (shut_int Tryd.underlying2 hn) (trodAll_cons_mk (shut_string Tryd.underlying9 ht) trodAll_mk0))), rfl, bel.frame _, fun h => by cases h⟩

/- The row's and the card's dearest closed facts, each a theorem of its own: so the kernel gives its memory back behind each. -/
theorem k_wf : Rows.fnWriterResetEmptiesAndCountsRow.wf (OpenSpec.ofChange Rows.fnWriterResetEmptiesAndCountsSpec) = true := by kernel_rfl
theorem k_enter : Tryd.pinned.checked.prog.mayEnter = true := by kernel_rfl
theorem k_lift : (Rows.fnWriterResetEmptiesAndCountsRow.lifted == Tryd.pinned.checked.prog.liftsFinal) = true := by kernel_rfl
theorem k_make : (Tryd.pinned.checked.prog.make == some Rows.fnWriterResetEmptiesAndCountsRow.make) = true := by kernel_rfl
theorem k_main : Tryd.pinned.checked.prog.mainIs = some (true, "c0f85b9cb035df9a89d606028140660756414f550cae8dfd4adea2319ca90405".toList) := by kernel_rfl
theorem k_looks : true = Tryd.pinned.checked.prog.looks [] := by kernel_rfl
theorem k_goes : false = Rows.fnWriterResetEmptiesAndCountsRow.goesBy Tryd.pinned.checked.prog := by kernel_rfl
theorem k_text : Rows.fnWriterResetEmptiesAndCountsRow.wfByText (OpenSpec.ofChange Rows.fnWriterResetEmptiesAndCountsSpec) = true := by kernel_rfl
theorem k_place : (Rows.fnWriterResetEmptiesAndCountsRow.inPlace == Tryd.pinned.checked.prog.inPlace 3) = true := by kernel_rfl
theorem k_unf : (Rows.fnWriterResetEmptiesAndCountsRow.unfollowed == Tryd.pinned.checked.prog.unfollowed 3) = true := by kernel_rfl
theorem k_rec : (Rows.fnWriterResetEmptiesAndCountsRow.recurses == Tryd.pinned.checked.prog.recurses 3) = true := by kernel_rfl
theorem k_named : (Rows.fnWriterResetEmptiesAndCountsRow.named == Tryd.pinned.checked.prog.varsNamed 3) = true := by kernel_rfl

theorem closed : joinedFacts Tryd.pinned.checked.prog 3 Tryd.f3 Rows.fnWriterResetEmptiesAndCountsSpec Rows.fnWriterResetEmptiesAndCountsRow = true := by
  simp only [joinedFacts, Bool.and_eq_true]
  refine ⟨?_, by kernel_rfl⟩
  refine ⟨?_, by kernel_rfl⟩
  refine ⟨?_, by kernel_rfl⟩
  refine ⟨?_, by kernel_rfl⟩
  refine ⟨?_, k_make⟩
  refine ⟨?_, k_lift⟩
  refine ⟨?_, k_enter⟩
  refine ⟨?_, by kernel_rfl⟩
  refine ⟨?_, by kernel_rfl⟩
  refine ⟨?_, by kernel_rfl⟩
  refine ⟨?_, by kernel_rfl⟩
  refine ⟨?_, by kernel_rfl⟩
  refine ⟨?_, by kernel_rfl⟩
  refine ⟨?_, by kernel_rfl⟩
  refine ⟨?_, by kernel_rfl⟩
  refine ⟨?_, by kernel_rfl⟩
  refine ⟨?_, by kernel_rfl⟩
  refine ⟨?_, by kernel_rfl⟩
  refine ⟨?_, by kernel_rfl⟩
  refine ⟨?_, k_named⟩
  refine ⟨?_, k_rec⟩
  refine ⟨?_, k_unf⟩
  refine ⟨?_, k_place⟩
  refine ⟨?_, by kernel_rfl⟩
  refine ⟨?_, by kernel_rfl⟩
  refine ⟨?_, by kernel_rfl⟩
  refine ⟨?_, by kernel_rfl⟩
  refine ⟨?_, by kernel_rfl⟩
  refine ⟨?_, by kernel_rfl⟩
  refine ⟨?_, by kernel_rfl⟩
  refine ⟨?_, by kernel_rfl⟩
  exact k_wf

/-- The row. -/
theorem over : Rows.FnWriterResetEmptiesAndCountsSaid :=
  OpenClaim.holds_of_wide 3 Tryd.f3 rfl rfl rfl rfl rfl rfl rfl ⟨rfl, rfl, rfl, rfl, rfl⟩ rfl rfl rfl rfl rfl (by kernel_rfl) Tryd.func3 closed
    (of_decide_eq_true (by kernel_rfl)) (by unfold Func.isWrapper; first | (rw [if_pos (by decide +kernel)]; kernel_rfl) | (rw [if_neg (by decide +kernel)]; exact ⟨rfl, rfl⟩))
    (fun os started H enc _ => lifted os started H enc)

/-- THE STATEMENT: the tied card. -/
theorem proved : Rows.FnWriterResetEmptiesAndCountsCardSaid :=
  Claim7.holds_tied_plain_at .later [] [.data, .data, .data] true (true, "c0f85b9cb035df9a89d606028140660756414f550cae8dfd4adea2319ca90405") true
    over (fun _ h => by cases h) k_text (fun _ h => by cases h) fnWriterResetEmptiesAndCounts_row_tie rfl ⟨rfl, rfl⟩ k_main rfl
    (fun f fn hf hfn => by
      obtain rfl : f = 3 := Option.some.inj ((show Tryd.prog.funcNamed Rows.fnWriterResetEmptiesAndCountsRow.func = some 3 by kernel_rfl).symm.trans hf) |>.symm
      obtain rfl : fn = Tryd.f3 := (Option.some.inj (Tryd.func3.symm.trans hfn)).symm
      exact ⟨k_looks, fun j t ht => by
        rw [Tryd.params3] at ht
        have hm : t ∈ [9, 2, 9] := by simpa using Array.mem_of_getElem? ht
        have hall : ([9, 2, 9].all fun u => !Tryd.prog.wantsStandIn u) = true := by kernel_rfl
        exact (show Tryd.prog.wantsStandIn t = false by simpa using List.all_eq_true.1 hall t hm)⟩)
    k_goes
#print axioms proved
end Go.Proofs.Qxb6605687aDoor.fnWriterResetEmptiesAndCounts
