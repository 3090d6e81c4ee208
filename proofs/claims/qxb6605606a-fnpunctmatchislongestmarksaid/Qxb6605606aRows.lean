/-
  No cell of these rows narrows 'for every input' (looked for: loops, veiled, ifaces, maps, wideKeys, modest, calm, conditions, laid).
  DERIVED. THE GIVEN ROWS OF THIS SEAT. 4 by the template 'for every input the law returns true; each argument reads behind the call as it read before'; 0 by the template 'total and deterministic' (their statements: Qxb6605606aTotals.lean).
  GIVEN WITH THE SEED: the statements are not yours to turn. If you find one false, say at which input.
  Laid BY PROGRAM, IN A SANDBOX (cutbox-rows.mjs): the forced cells as the released guide's own fill.sh prints them over the translation ac27e9aff3723a28… (all of the seat's roots in one cut). By AI agents, Wed Nov 11 2026. No macro, syntax, notation, axiom, sorry.
-/
import Derived.Test.Qxb6605606aChecked
import GoSem.Claim
import GoSem.ClaimJoined
import GoSem.ClaimMapViews
import Derived.JoinedTies
import Derived.KernelRfl
namespace Go.Proofs.Qxb6605606a
/- THE CELL 'sum', in the pinned program and in every row, IS THE sha256 OF THE DUMP (.gsa) THAT Qxb6605606aProg.lean LOADS. Nothing in Lean hashes anything: it is a label: what it is worth is what the hold of that sum in a sandbox is worth. -/
noncomputable def Try.pinned : Pinned := { name := "qxb6605606a", sum := "ac27e9aff3723a282cc848ba5521cd327dd16c1b5032a38e2a8b6eda5c24d000", checked := Try.checked }
namespace Rows
def none {H : Type} : Left H := { results := [], args := [] }

/-- 'zzlaws_root_b1.FnPunctMatchIsLongestMark': WHATEVER THE INPUT: true; the input reads as it did. -/
def fnPunctMatchIsLongestMarkSpec : ChangeSpec := { name := "fnPunctMatchIsLongestMark", fn := fun _ => fun
  | [d1, d2] => { results := [.lit (.bool true)], args := [d1, d2] }
  | _ => none }
def fnPunctMatchIsLongestMarkRow : OpenClaim := { program := "qxb6605606a", sum := "ac27e9aff3723a282cc848ba5521cd327dd16c1b5032a38e2a8b6eda5c24d000", func := "example.com/querylex/querylex/zzlaws_root_b1.FnPunctMatchIsLongestMark", spec := "fnPunctMatchIsLongestMark", apart := false }
def FnPunctMatchIsLongestMarkSaid : Prop := fnPunctMatchIsLongestMarkRow.holds Try.pinned (OpenSpec.ofChange fnPunctMatchIsLongestMarkSpec)

/-- ITS FALSE NEIGHBOUR: 'it returns false'. Refute it at one input. -/
def fnPunctMatchIsLongestMarkWrong : ChangeSpec := { name := "fnPunctMatchIsLongestMark", fn := fun _ => fun
  | [d1, d2] => { results := [.lit (.bool false)], args := [d1, d2] }
  | _ => none }
def FnPunctMatchIsLongestMarkWrongFalsely : Prop := fnPunctMatchIsLongestMarkRow.holds Try.pinned (OpenSpec.ofChange fnPunctMatchIsLongestMarkWrong)

/-- 'zzlaws_root_b1.FnPunctMatchMaximalMunch': WHATEVER THE INPUT: true; the input reads as it did. -/
def fnPunctMatchMaximalMunchSpec : ChangeSpec := { name := "fnPunctMatchMaximalMunch", fn := fun _ => fun
  | [d1, d2, d3] => { results := [.lit (.bool true)], args := [d1, d2, d3] }
  | _ => none }
def fnPunctMatchMaximalMunchRow : OpenClaim := { program := "qxb6605606a", sum := "ac27e9aff3723a282cc848ba5521cd327dd16c1b5032a38e2a8b6eda5c24d000", func := "example.com/querylex/querylex/zzlaws_root_b1.FnPunctMatchMaximalMunch", spec := "fnPunctMatchMaximalMunch", apart := false }
def FnPunctMatchMaximalMunchSaid : Prop := fnPunctMatchMaximalMunchRow.holds Try.pinned (OpenSpec.ofChange fnPunctMatchMaximalMunchSpec)

/-- ITS FALSE NEIGHBOUR: 'it returns false'. Refute it at one input. -/
def fnPunctMatchMaximalMunchWrong : ChangeSpec := { name := "fnPunctMatchMaximalMunch", fn := fun _ => fun
  | [d1, d2, d3] => { results := [.lit (.bool false)], args := [d1, d2, d3] }
  | _ => none }
def FnPunctMatchMaximalMunchWrongFalsely : Prop := fnPunctMatchMaximalMunchRow.holds Try.pinned (OpenSpec.ofChange fnPunctMatchMaximalMunchWrong)

/-- 'zzlaws_root_b1.FnPostfixPosIsOperandStart': WHATEVER THE INPUT: true; the input reads as it did. -/
def fnPostfixPosIsOperandStartSpec : ChangeSpec := { name := "fnPostfixPosIsOperandStart", fn := fun _ => fun
  | [d1, d2, d3, d4, d5, d6, d7, d8, d9, d10, d11, d12] => { results := [.lit (.bool true)], args := [d1, d2, d3, d4, d5, d6, d7, d8, d9, d10, d11, d12] }
  | _ => none }
def fnPostfixPosIsOperandStartRow : OpenClaim := { program := "qxb6605606a", sum := "ac27e9aff3723a282cc848ba5521cd327dd16c1b5032a38e2a8b6eda5c24d000", func := "example.com/querylex/querylex/zzlaws_root_b1.FnPostfixPosIsOperandStart", spec := "fnPostfixPosIsOperandStart", unfollowed := true, recurses := true, apart := false }
def FnPostfixPosIsOperandStartSaid : Prop := fnPostfixPosIsOperandStartRow.holds Try.pinned (OpenSpec.ofChange fnPostfixPosIsOperandStartSpec)

/-- ITS FALSE NEIGHBOUR: 'it returns false'. Refute it at one input. -/
def fnPostfixPosIsOperandStartWrong : ChangeSpec := { name := "fnPostfixPosIsOperandStart", fn := fun _ => fun
  | [d1, d2, d3, d4, d5, d6, d7, d8, d9, d10, d11, d12] => { results := [.lit (.bool false)], args := [d1, d2, d3, d4, d5, d6, d7, d8, d9, d10, d11, d12] }
  | _ => none }
def FnPostfixPosIsOperandStartWrongFalsely : Prop := fnPostfixPosIsOperandStartRow.holds Try.pinned (OpenSpec.ofChange fnPostfixPosIsOperandStartWrong)

/-- 'zzlaws_root_b1.FnPostfixPosOverInfixIsLeftOperand': WHATEVER THE INPUT: true; the input reads as it did. -/
def fnPostfixPosOverInfixIsLeftOperandSpec : ChangeSpec := { name := "fnPostfixPosOverInfixIsLeftOperand", fn := fun _ => fun
  | [d1, d2, d3, d4, d5, d6, d7, d8, d9, d10] => { results := [.lit (.bool true)], args := [d1, d2, d3, d4, d5, d6, d7, d8, d9, d10] }
  | _ => none }
def fnPostfixPosOverInfixIsLeftOperandRow : OpenClaim := { program := "qxb6605606a", sum := "ac27e9aff3723a282cc848ba5521cd327dd16c1b5032a38e2a8b6eda5c24d000", func := "example.com/querylex/querylex/zzlaws_root_b1.FnPostfixPosOverInfixIsLeftOperand", spec := "fnPostfixPosOverInfixIsLeftOperand", unfollowed := true, recurses := true, apart := false }
def FnPostfixPosOverInfixIsLeftOperandSaid : Prop := fnPostfixPosOverInfixIsLeftOperandRow.holds Try.pinned (OpenSpec.ofChange fnPostfixPosOverInfixIsLeftOperandSpec)

/-- ITS FALSE NEIGHBOUR: 'it returns false'. Refute it at one input. -/
def fnPostfixPosOverInfixIsLeftOperandWrong : ChangeSpec := { name := "fnPostfixPosOverInfixIsLeftOperand", fn := fun _ => fun
  | [d1, d2, d3, d4, d5, d6, d7, d8, d9, d10] => { results := [.lit (.bool false)], args := [d1, d2, d3, d4, d5, d6, d7, d8, d9, d10] }
  | _ => none }
def FnPostfixPosOverInfixIsLeftOperandWrongFalsely : Prop := fnPostfixPosOverInfixIsLeftOperandRow.holds Try.pinned (OpenSpec.ofChange fnPostfixPosOverInfixIsLeftOperandWrong)

end Rows
end Go.Proofs.Qxb6605606a
