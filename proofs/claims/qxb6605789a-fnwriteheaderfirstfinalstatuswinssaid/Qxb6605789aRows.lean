/-
  No cell of these rows narrows 'for every input' (looked for: loops, veiled, ifaces, maps, wideKeys, modest, calm, conditions, laid).
  DERIVED. THE GIVEN ROWS OF THIS SEAT. 2 by the template 'for every input the law returns true; each argument reads behind the call as it read before'; 0 by the template 'total and deterministic' (their statements: Qxb6605789aTotals.lean).
  GIVEN WITH THE SEED: the statements are not yours to turn. If you find one false, say at which input.
  Laid BY PROGRAM, IN A SANDBOX (cutbox-rows.mjs): the forced cells as the released guide's own fill.sh prints them over the translation 8bbf40b390f65c6b… (all of the seat's roots in one cut). By AI agents, Wed Nov 11 2026. No macro, syntax, notation, axiom, sorry.
-/
import Derived.Test.Qxb6605789aChecked
import GoSem.Claim
import GoSem.ClaimJoined
import GoSem.ClaimMapViews
import Derived.JoinedTies
import Derived.KernelRfl
namespace Go.Proofs.Qxb6605789a
/- THE CELL 'sum', in the pinned program and in every row, IS THE sha256 OF THE DUMP (.gsa) THAT Qxb6605789aProg.lean LOADS. Nothing in Lean hashes anything: it is a label: what it is worth is what the hold of that sum in a sandbox is worth. -/
noncomputable def Try.pinned : Pinned := { name := "qxb6605789a", sum := "8bbf40b390f65c6b8a3631fe5c594f05dde440e291ebffd05c42bc2588716ae8", checked := Try.checked }
namespace Rows
def none {H : Type} : Left H := { results := [], args := [] }

/-- 'zzlaws_internal_server_b1.FnWriteHeaderFirstFinalStatusWins': WHATEVER THE INPUT: true; the input reads as it did. -/
def fnWriteHeaderFirstFinalStatusWinsSpec : ChangeSpec := { name := "fnWriteHeaderFirstFinalStatusWins", fn := fun _ => fun
  | [d1, d2] => { results := [.lit (.bool true)], args := [d1, d2] }
  | _ => none }
def fnWriteHeaderFirstFinalStatusWinsRow : OpenClaim := { program := "qxb6605789a", sum := "8bbf40b390f65c6b8a3631fe5c594f05dde440e291ebffd05c42bc2588716ae8", func := "example.com/fenceline/fenceline/zzlaws_internal_server_b1.FnWriteHeaderFirstFinalStatusWins", spec := "fnWriteHeaderFirstFinalStatusWins", unfollowed := true, recurses := true, apart := false }
def FnWriteHeaderFirstFinalStatusWinsSaid : Prop := fnWriteHeaderFirstFinalStatusWinsRow.holds Try.pinned (OpenSpec.ofChange fnWriteHeaderFirstFinalStatusWinsSpec)

/-- ITS FALSE NEIGHBOUR: 'it returns false'. Refute it at one input. -/
def fnWriteHeaderFirstFinalStatusWinsWrong : ChangeSpec := { name := "fnWriteHeaderFirstFinalStatusWins", fn := fun _ => fun
  | [d1, d2] => { results := [.lit (.bool false)], args := [d1, d2] }
  | _ => none }
def FnWriteHeaderFirstFinalStatusWinsWrongFalsely : Prop := fnWriteHeaderFirstFinalStatusWinsRow.holds Try.pinned (OpenSpec.ofChange fnWriteHeaderFirstFinalStatusWinsWrong)

/-- 'zzlaws_internal_server_b1.FnWriteHeaderTwiceIsOnce': WHATEVER THE INPUT: true; the input reads as it did. -/
def fnWriteHeaderTwiceIsOnceSpec : ChangeSpec := { name := "fnWriteHeaderTwiceIsOnce", fn := fun _ => fun
  | [d1, d2, d3] => { results := [.lit (.bool true)], args := [d1, d2, d3] }
  | _ => none }
def fnWriteHeaderTwiceIsOnceRow : OpenClaim := { program := "qxb6605789a", sum := "8bbf40b390f65c6b8a3631fe5c594f05dde440e291ebffd05c42bc2588716ae8", func := "example.com/fenceline/fenceline/zzlaws_internal_server_b1.FnWriteHeaderTwiceIsOnce", spec := "fnWriteHeaderTwiceIsOnce", unfollowed := true, recurses := true, apart := false }
def FnWriteHeaderTwiceIsOnceSaid : Prop := fnWriteHeaderTwiceIsOnceRow.holds Try.pinned (OpenSpec.ofChange fnWriteHeaderTwiceIsOnceSpec)

/-- ITS FALSE NEIGHBOUR: 'it returns false'. Refute it at one input. -/
def fnWriteHeaderTwiceIsOnceWrong : ChangeSpec := { name := "fnWriteHeaderTwiceIsOnce", fn := fun _ => fun
  | [d1, d2, d3] => { results := [.lit (.bool false)], args := [d1, d2, d3] }
  | _ => none }
def FnWriteHeaderTwiceIsOnceWrongFalsely : Prop := fnWriteHeaderTwiceIsOnceRow.holds Try.pinned (OpenSpec.ofChange fnWriteHeaderTwiceIsOnceWrong)

end Rows
end Go.Proofs.Qxb6605789a
