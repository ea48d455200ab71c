/-
  No cell of these rows narrows 'for every input' (looked for: loops, veiled, ifaces, maps, wideKeys, modest, calm, conditions, laid).
  DERIVED. THE GIVEN ROWS OF THIS SEAT. 3 by the template 'for every input the law returns true; each argument reads behind the call as it read before'; 0 by the template 'total and deterministic' (their statements: Qxb6601300aTotals.lean).
  GIVEN WITH THE SEED: the statements are not yours to turn. If you find one false, say at which input.
  Laid BY PROGRAM, IN A SANDBOX (cutbox-rows.mjs): the forced cells as the released guide's own fill.sh prints them over the translation d4c2fde111733ebf… (all of the seat's roots in one cut). By AI agents, Wed Nov 11 2026. No macro, syntax, notation, axiom, sorry.
-/
import Derived.Test.Qxb6601300aChecked
import GoSem.Claim
import GoSem.ClaimJoined
import GoSem.ClaimMapViews
import Derived.JoinedTies
import Derived.KernelRfl
namespace Go.Proofs.Qxb6601300a
/- THE CELL 'sum', in the pinned program and in every row, IS THE sha256 OF THE DUMP (.gsa) THAT Qxb6601300aProg.lean LOADS. Nothing in Lean hashes anything: it is a label: what it is worth is what the hold of that sum in a sandbox is worth. -/
noncomputable def Try.pinned : Pinned := { name := "qxb6601300a", sum := "d4c2fde111733ebfec75202d8f6c60d4039c05b1463b94ccae1d2c9e4f84e4f4", checked := Try.checked }
namespace Rows
def none {H : Type} : Left H := { results := [], args := [] }

/-- 'zzlaws_internal_decimal_b1.FnPlainMatchesDigitsPointDigits': WHATEVER THE INPUT: true; the input reads as it did. -/
def fnPlainMatchesDigitsPointDigitsSpec : ChangeSpec := { name := "fnPlainMatchesDigitsPointDigits", fn := fun _ => fun
  | [d] => { results := [.lit (.bool true)], args := [d] }
  | _ => none }
def fnPlainMatchesDigitsPointDigitsRow : OpenClaim := { program := "qxb6601300a", sum := "d4c2fde111733ebfec75202d8f6c60d4039c05b1463b94ccae1d2c9e4f84e4f4", func := "example.com/tuoguan/tuoguan/zzlaws_internal_decimal_b1.FnPlainMatchesDigitsPointDigits", spec := "fnPlainMatchesDigitsPointDigits", apart := false }
def FnPlainMatchesDigitsPointDigitsSaid : Prop := fnPlainMatchesDigitsPointDigitsRow.holds Try.pinned (OpenSpec.ofChange fnPlainMatchesDigitsPointDigitsSpec)

/-- ITS FALSE NEIGHBOUR: 'it returns false'. Refute it at one input. -/
def fnPlainMatchesDigitsPointDigitsWrong : ChangeSpec := { name := "fnPlainMatchesDigitsPointDigits", fn := fun _ => fun
  | [d] => { results := [.lit (.bool false)], args := [d] }
  | _ => none }
def FnPlainMatchesDigitsPointDigitsWrongFalsely : Prop := fnPlainMatchesDigitsPointDigitsRow.holds Try.pinned (OpenSpec.ofChange fnPlainMatchesDigitsPointDigitsWrong)

/-- 'zzlaws_internal_decimal_b1.FnPlainJoinAtPoint': WHATEVER THE INPUT: true; the input reads as it did. -/
def fnPlainJoinAtPointSpec : ChangeSpec := { name := "fnPlainJoinAtPoint", fn := fun _ => fun
  | [d1, d2] => { results := [.lit (.bool true)], args := [d1, d2] }
  | _ => none }
def fnPlainJoinAtPointRow : OpenClaim := { program := "qxb6601300a", sum := "d4c2fde111733ebfec75202d8f6c60d4039c05b1463b94ccae1d2c9e4f84e4f4", func := "example.com/tuoguan/tuoguan/zzlaws_internal_decimal_b1.FnPlainJoinAtPoint", spec := "fnPlainJoinAtPoint", apart := false }
def FnPlainJoinAtPointSaid : Prop := fnPlainJoinAtPointRow.holds Try.pinned (OpenSpec.ofChange fnPlainJoinAtPointSpec)

/-- ITS FALSE NEIGHBOUR: 'it returns false'. Refute it at one input. -/
def fnPlainJoinAtPointWrong : ChangeSpec := { name := "fnPlainJoinAtPoint", fn := fun _ => fun
  | [d1, d2] => { results := [.lit (.bool false)], args := [d1, d2] }
  | _ => none }
def FnPlainJoinAtPointWrongFalsely : Prop := fnPlainJoinAtPointRow.holds Try.pinned (OpenSpec.ofChange fnPlainJoinAtPointWrong)

/-- 'zzlaws_internal_decimal_b1.FnPlainKeepsAcceptedUnderAddedDigit': WHATEVER THE INPUT: true; the input reads as it did. -/
def fnPlainKeepsAcceptedUnderAddedDigitSpec : ChangeSpec := { name := "fnPlainKeepsAcceptedUnderAddedDigit", fn := fun _ => fun
  | [d1, d2] => { results := [.lit (.bool true)], args := [d1, d2] }
  | _ => none }
def fnPlainKeepsAcceptedUnderAddedDigitRow : OpenClaim := { program := "qxb6601300a", sum := "d4c2fde111733ebfec75202d8f6c60d4039c05b1463b94ccae1d2c9e4f84e4f4", func := "example.com/tuoguan/tuoguan/zzlaws_internal_decimal_b1.FnPlainKeepsAcceptedUnderAddedDigit", spec := "fnPlainKeepsAcceptedUnderAddedDigit", apart := false }
def FnPlainKeepsAcceptedUnderAddedDigitSaid : Prop := fnPlainKeepsAcceptedUnderAddedDigitRow.holds Try.pinned (OpenSpec.ofChange fnPlainKeepsAcceptedUnderAddedDigitSpec)

/-- ITS FALSE NEIGHBOUR: 'it returns false'. Refute it at one input. -/
def fnPlainKeepsAcceptedUnderAddedDigitWrong : ChangeSpec := { name := "fnPlainKeepsAcceptedUnderAddedDigit", fn := fun _ => fun
  | [d1, d2] => { results := [.lit (.bool false)], args := [d1, d2] }
  | _ => none }
def FnPlainKeepsAcceptedUnderAddedDigitWrongFalsely : Prop := fnPlainKeepsAcceptedUnderAddedDigitRow.holds Try.pinned (OpenSpec.ofChange fnPlainKeepsAcceptedUnderAddedDigitWrong)

end Rows
end Go.Proofs.Qxb6601300a
