/-
  No cell of these rows narrows 'for every input' (looked for: loops, veiled, ifaces, maps, wideKeys, modest, calm, conditions, laid).
  DERIVED. THE GIVEN ROWS OF THIS SEAT. 1 by the template 'for every input the law returns true; each argument reads behind the call as it read before'; 0 by the template 'total and deterministic' (their statements: Qxb6605687aTotals.lean).
  GIVEN WITH THE SEED: the statements are not yours to turn. If you find one false, say at which input.
  Laid BY PROGRAM, IN A SANDBOX (cutbox-rows.mjs): the forced cells as the released guide's own fill.sh prints them over the translation 7da1fdfaf9315826… (all of the seat's roots in one cut). By AI agents, Wed Nov 11 2026. No macro, syntax, notation, axiom, sorry.
-/
import Derived.Test.Qxb6605687aChecked
import GoSem.Claim
import GoSem.ClaimJoined
import GoSem.ClaimMapViews
import Derived.JoinedTies
import Derived.KernelRfl
namespace Go.Proofs.Qxb6605687a
/- THE CELL 'sum', in the pinned program and in every row, IS THE sha256 OF THE DUMP (.gsa) THAT Qxb6605687aProg.lean LOADS. Nothing in Lean hashes anything: it is a label: what it is worth is what the hold of that sum in a sandbox is worth. -/
noncomputable def Try.pinned : Pinned := { name := "qxb6605687a", sum := "7da1fdfaf9315826fc799f982fcb7c4131ff47c7563f02500d13ac5348a84b21", checked := Try.checked }
namespace Rows
def none {H : Type} : Left H := { results := [], args := [] }

/-- 'zzlaws_pkg_resp_b1.FnWriterResetScriptKeepsTally': WHATEVER THE INPUT: true; the input reads as it did. -/
def fnWriterResetScriptKeepsTallySpec : ChangeSpec := { name := "fnWriterResetScriptKeepsTally", fn := fun _ => fun
  | [d1, d2] => { results := [.lit (.bool true)], args := [d1, d2] }
  | _ => none }
def fnWriterResetScriptKeepsTallyRow : OpenClaim := { program := "qxb6605687a", sum := "7da1fdfaf9315826fc799f982fcb7c4131ff47c7563f02500d13ac5348a84b21", func := "example.com/hopscore/hopscore/zzlaws_pkg_resp_b1.FnWriterResetScriptKeepsTally", spec := "fnWriterResetScriptKeepsTally", unfollowed := true, recurses := true, apart := false }
def FnWriterResetScriptKeepsTallySaid : Prop := fnWriterResetScriptKeepsTallyRow.holds Try.pinned (OpenSpec.ofChange fnWriterResetScriptKeepsTallySpec)

/-- ITS FALSE NEIGHBOUR: 'it returns false'. Refute it at one input. -/
def fnWriterResetScriptKeepsTallyWrong : ChangeSpec := { name := "fnWriterResetScriptKeepsTally", fn := fun _ => fun
  | [d1, d2] => { results := [.lit (.bool false)], args := [d1, d2] }
  | _ => none }
def FnWriterResetScriptKeepsTallyWrongFalsely : Prop := fnWriterResetScriptKeepsTallyRow.holds Try.pinned (OpenSpec.ofChange fnWriterResetScriptKeepsTallyWrong)

end Rows
end Go.Proofs.Qxb6605687a
