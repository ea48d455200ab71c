/-
  NARROWER THAN 'FOR EVERY INPUT', by the rows' own cells (each row's printed sentence says how): FnTypeStringMatchesBracketModel: loops · FnTypeStringParsesBackToItsType: loops.
  DERIVED. THE GIVEN ROWS OF THIS SEAT. 3 by the template 'for every input the law returns true; each argument reads behind the call as it read before'; 0 by the template 'total and deterministic' (their statements: Qxb6602381aTotals.lean).
  GIVEN WITH THE SEED: the statements are not yours to turn. If you find one false, say at which input.
  Laid BY PROGRAM, IN A SANDBOX (cutbox-rows.mjs): the forced cells as the released guide's own fill.sh prints them over the translation 39921af9723e7137… (all of the seat's roots in one cut). By AI agents, Wed Nov 11 2026. No macro, syntax, notation, axiom, sorry.
-/
import Derived.Test.Qxb6602381aChecked
import GoSem.Claim
import GoSem.ClaimJoined
import GoSem.ClaimMapViews
import Derived.JoinedTies
import Derived.KernelRfl
namespace Go.Proofs.Qxb6602381a
/- THE CELL 'sum', in the pinned program and in every row, IS THE sha256 OF THE DUMP (.gsa) THAT Qxb6602381aProg.lean LOADS. Nothing in Lean hashes anything: it is a label: what it is worth is what the hold of that sum in a sandbox is worth. -/
noncomputable def Try.pinned : Pinned := { name := "qxb6602381a", sum := "39921af9723e713747e0602edb4e67f25d814b6d705c2fd20d6992547a3773a4", checked := Try.checked }
namespace Rows
def none {H : Type} : Left H := { results := [], args := [] }

/-- 'zzlaws_internal_sdlfile_b1.FnTypeStringMatchesBracketModel': WHATEVER THE INPUT: true; the input reads as it did. -/
def fnTypeStringMatchesBracketModelSpec : ChangeSpec := { name := "fnTypeStringMatchesBracketModel", fn := fun _ => fun
  | [d] => { results := [.lit (.bool true)], args := [d] }
  | _ => none }
def fnTypeStringMatchesBracketModelRow : OpenClaim := { program := "qxb6602381a", sum := "39921af9723e713747e0602edb4e67f25d814b6d705c2fd20d6992547a3773a4", func := "example.com/tagwright/tagwright/zzlaws_internal_sdlfile_b1.FnTypeStringMatchesBracketModel", spec := "fnTypeStringMatchesBracketModel", recurses := true, loops := true, apart := false }
def FnTypeStringMatchesBracketModelSaid : Prop := fnTypeStringMatchesBracketModelRow.holds Try.pinned (OpenSpec.ofChange fnTypeStringMatchesBracketModelSpec)

/-- ITS FALSE NEIGHBOUR: 'it returns false'. Refute it at one input. -/
def fnTypeStringMatchesBracketModelWrong : ChangeSpec := { name := "fnTypeStringMatchesBracketModel", fn := fun _ => fun
  | [d] => { results := [.lit (.bool false)], args := [d] }
  | _ => none }
def FnTypeStringMatchesBracketModelWrongFalsely : Prop := fnTypeStringMatchesBracketModelRow.holds Try.pinned (OpenSpec.ofChange fnTypeStringMatchesBracketModelWrong)

/-- 'zzlaws_internal_sdlfile_b1.FnTypeStringParsesBackToItsType': WHATEVER THE INPUT: true; the input reads as it did. -/
def fnTypeStringParsesBackToItsTypeSpec : ChangeSpec := { name := "fnTypeStringParsesBackToItsType", fn := fun _ => fun
  | [d] => { results := [.lit (.bool true)], args := [d] }
  | _ => none }
def fnTypeStringParsesBackToItsTypeRow : OpenClaim := { program := "qxb6602381a", sum := "39921af9723e713747e0602edb4e67f25d814b6d705c2fd20d6992547a3773a4", func := "example.com/tagwright/tagwright/zzlaws_internal_sdlfile_b1.FnTypeStringParsesBackToItsType", spec := "fnTypeStringParsesBackToItsType", recurses := true, loops := true, apart := false }
def FnTypeStringParsesBackToItsTypeSaid : Prop := fnTypeStringParsesBackToItsTypeRow.holds Try.pinned (OpenSpec.ofChange fnTypeStringParsesBackToItsTypeSpec)

/-- ITS FALSE NEIGHBOUR: 'it returns false'. Refute it at one input. -/
def fnTypeStringParsesBackToItsTypeWrong : ChangeSpec := { name := "fnTypeStringParsesBackToItsType", fn := fun _ => fun
  | [d] => { results := [.lit (.bool false)], args := [d] }
  | _ => none }
def FnTypeStringParsesBackToItsTypeWrongFalsely : Prop := fnTypeStringParsesBackToItsTypeRow.holds Try.pinned (OpenSpec.ofChange fnTypeStringParsesBackToItsTypeWrong)

/-- 'zzlaws_internal_sdlfile_b1.FnScalarScriptKeepsFirstOfEachName': WHATEVER THE INPUT: true; the input reads as it did. -/
def fnScalarScriptKeepsFirstOfEachNameSpec : ChangeSpec := { name := "fnScalarScriptKeepsFirstOfEachName", fn := fun _ => fun
  | [d] => { results := [.lit (.bool true)], args := [d] }
  | _ => none }
def fnScalarScriptKeepsFirstOfEachNameRow : OpenClaim := { program := "qxb6602381a", sum := "39921af9723e713747e0602edb4e67f25d814b6d705c2fd20d6992547a3773a4", func := "example.com/tagwright/tagwright/zzlaws_internal_sdlfile_b1.FnScalarScriptKeepsFirstOfEachName", spec := "fnScalarScriptKeepsFirstOfEachName", apart := false }
def FnScalarScriptKeepsFirstOfEachNameSaid : Prop := fnScalarScriptKeepsFirstOfEachNameRow.holds Try.pinned (OpenSpec.ofChange fnScalarScriptKeepsFirstOfEachNameSpec)

/-- ITS FALSE NEIGHBOUR: 'it returns false'. Refute it at one input. -/
def fnScalarScriptKeepsFirstOfEachNameWrong : ChangeSpec := { name := "fnScalarScriptKeepsFirstOfEachName", fn := fun _ => fun
  | [d] => { results := [.lit (.bool false)], args := [d] }
  | _ => none }
def FnScalarScriptKeepsFirstOfEachNameWrongFalsely : Prop := fnScalarScriptKeepsFirstOfEachNameRow.holds Try.pinned (OpenSpec.ofChange fnScalarScriptKeepsFirstOfEachNameWrong)

end Rows
end Go.Proofs.Qxb6602381a
