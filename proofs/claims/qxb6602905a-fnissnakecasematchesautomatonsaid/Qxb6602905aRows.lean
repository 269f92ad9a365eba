/-
  No cell of these rows narrows 'for every input' (looked for: loops, veiled, ifaces, maps, wideKeys, modest, calm, conditions, laid).
  DERIVED. THE GIVEN ROWS OF THIS SEAT. 5 by the template 'for every input the law returns true; each argument reads behind the call as it read before'; 0 by the template 'total and deterministic' (their statements: Qxb6602905aTotals.lean).
  GIVEN WITH THE SEED: the statements are not yours to turn. If you find one false, say at which input.
  Laid BY PROGRAM, IN A SANDBOX (cutbox-rows.mjs): the forced cells as the released guide's own fill.sh prints them over the translation 8d18890a069aedf1… (all of the seat's roots in one cut). By AI agents, Wed Nov 11 2026. No macro, syntax, notation, axiom, sorry.
-/
import Derived.Test.Qxb6602905aChecked
import GoSem.Claim
import GoSem.ClaimJoined
import GoSem.ClaimMapViews
import Derived.JoinedTies
import Derived.KernelRfl
namespace Go.Proofs.Qxb6602905a
/- THE CELL 'sum', in the pinned program and in every row, IS THE sha256 OF THE DUMP (.gsa) THAT Qxb6602905aProg.lean LOADS. Nothing in Lean hashes anything: it is a label: what it is worth is what the hold of that sum in a sandbox is worth. -/
noncomputable def Try.pinned : Pinned := { name := "qxb6602905a", sum := "8d18890a069aedf1761f2e6afab5b44e556aa09a3d186827001b2894cae5d215", checked := Try.checked }
namespace Rows
def none {H : Type} : Left H := { results := [], args := [] }

/-- 'zzlaws_root_b1.FnIsSnakeCaseMatchesAutomaton': WHATEVER THE INPUT: true; the input reads as it did. -/
def fnIsSnakeCaseMatchesAutomatonSpec : ChangeSpec := { name := "fnIsSnakeCaseMatchesAutomaton", fn := fun _ => fun
  | [d] => { results := [.lit (.bool true)], args := [d] }
  | _ => none }
def fnIsSnakeCaseMatchesAutomatonRow : OpenClaim := { program := "qxb6602905a", sum := "8d18890a069aedf1761f2e6afab5b44e556aa09a3d186827001b2894cae5d215", func := "example.com/kapable/kapable/zzlaws_root_b1.FnIsSnakeCaseMatchesAutomaton", spec := "fnIsSnakeCaseMatchesAutomaton", apart := false }
def FnIsSnakeCaseMatchesAutomatonSaid : Prop := fnIsSnakeCaseMatchesAutomatonRow.holds Try.pinned (OpenSpec.ofChange fnIsSnakeCaseMatchesAutomatonSpec)

/-- ITS FALSE NEIGHBOUR: 'it returns false'. Refute it at one input. -/
def fnIsSnakeCaseMatchesAutomatonWrong : ChangeSpec := { name := "fnIsSnakeCaseMatchesAutomaton", fn := fun _ => fun
  | [d] => { results := [.lit (.bool false)], args := [d] }
  | _ => none }
def FnIsSnakeCaseMatchesAutomatonWrongFalsely : Prop := fnIsSnakeCaseMatchesAutomatonRow.holds Try.pinned (OpenSpec.ofChange fnIsSnakeCaseMatchesAutomatonWrong)

/-- 'zzlaws_root_b1.FnIsSnakeCaseClosedUnderJoining': WHATEVER THE INPUT: true; the input reads as it did. -/
def fnIsSnakeCaseClosedUnderJoiningSpec : ChangeSpec := { name := "fnIsSnakeCaseClosedUnderJoining", fn := fun _ => fun
  | [d1, d2] => { results := [.lit (.bool true)], args := [d1, d2] }
  | _ => none }
def fnIsSnakeCaseClosedUnderJoiningRow : OpenClaim := { program := "qxb6602905a", sum := "8d18890a069aedf1761f2e6afab5b44e556aa09a3d186827001b2894cae5d215", func := "example.com/kapable/kapable/zzlaws_root_b1.FnIsSnakeCaseClosedUnderJoining", spec := "fnIsSnakeCaseClosedUnderJoining", apart := false }
def FnIsSnakeCaseClosedUnderJoiningSaid : Prop := fnIsSnakeCaseClosedUnderJoiningRow.holds Try.pinned (OpenSpec.ofChange fnIsSnakeCaseClosedUnderJoiningSpec)

/-- ITS FALSE NEIGHBOUR: 'it returns false'. Refute it at one input. -/
def fnIsSnakeCaseClosedUnderJoiningWrong : ChangeSpec := { name := "fnIsSnakeCaseClosedUnderJoining", fn := fun _ => fun
  | [d1, d2] => { results := [.lit (.bool false)], args := [d1, d2] }
  | _ => none }
def FnIsSnakeCaseClosedUnderJoiningWrongFalsely : Prop := fnIsSnakeCaseClosedUnderJoiningRow.holds Try.pinned (OpenSpec.ofChange fnIsSnakeCaseClosedUnderJoiningWrong)

/-- 'zzlaws_root_b1.FnIsSnakeCaseRefusesLooseUnderscores': WHATEVER THE INPUT: true; the input reads as it did. -/
def fnIsSnakeCaseRefusesLooseUnderscoresSpec : ChangeSpec := { name := "fnIsSnakeCaseRefusesLooseUnderscores", fn := fun _ => fun
  | [d1, d2] => { results := [.lit (.bool true)], args := [d1, d2] }
  | _ => none }
def fnIsSnakeCaseRefusesLooseUnderscoresRow : OpenClaim := { program := "qxb6602905a", sum := "8d18890a069aedf1761f2e6afab5b44e556aa09a3d186827001b2894cae5d215", func := "example.com/kapable/kapable/zzlaws_root_b1.FnIsSnakeCaseRefusesLooseUnderscores", spec := "fnIsSnakeCaseRefusesLooseUnderscores", apart := false }
def FnIsSnakeCaseRefusesLooseUnderscoresSaid : Prop := fnIsSnakeCaseRefusesLooseUnderscoresRow.holds Try.pinned (OpenSpec.ofChange fnIsSnakeCaseRefusesLooseUnderscoresSpec)

/-- ITS FALSE NEIGHBOUR: 'it returns false'. Refute it at one input. -/
def fnIsSnakeCaseRefusesLooseUnderscoresWrong : ChangeSpec := { name := "fnIsSnakeCaseRefusesLooseUnderscores", fn := fun _ => fun
  | [d1, d2] => { results := [.lit (.bool false)], args := [d1, d2] }
  | _ => none }
def FnIsSnakeCaseRefusesLooseUnderscoresWrongFalsely : Prop := fnIsSnakeCaseRefusesLooseUnderscoresRow.holds Try.pinned (OpenSpec.ofChange fnIsSnakeCaseRefusesLooseUnderscoresWrong)

/-- 'zzlaws_root_b1.FnIsPluralDependsOnLastTwoBytesOnly': WHATEVER THE INPUT: true; the input reads as it did. -/
def fnIsPluralDependsOnLastTwoBytesOnlySpec : ChangeSpec := { name := "fnIsPluralDependsOnLastTwoBytesOnly", fn := fun _ => fun
  | [d1, d2] => { results := [.lit (.bool true)], args := [d1, d2] }
  | _ => none }
def fnIsPluralDependsOnLastTwoBytesOnlyRow : OpenClaim := { program := "qxb6602905a", sum := "8d18890a069aedf1761f2e6afab5b44e556aa09a3d186827001b2894cae5d215", func := "example.com/kapable/kapable/zzlaws_root_b1.FnIsPluralDependsOnLastTwoBytesOnly", spec := "fnIsPluralDependsOnLastTwoBytesOnly", apart := false }
def FnIsPluralDependsOnLastTwoBytesOnlySaid : Prop := fnIsPluralDependsOnLastTwoBytesOnlyRow.holds Try.pinned (OpenSpec.ofChange fnIsPluralDependsOnLastTwoBytesOnlySpec)

/-- ITS FALSE NEIGHBOUR: 'it returns false'. Refute it at one input. -/
def fnIsPluralDependsOnLastTwoBytesOnlyWrong : ChangeSpec := { name := "fnIsPluralDependsOnLastTwoBytesOnly", fn := fun _ => fun
  | [d1, d2] => { results := [.lit (.bool false)], args := [d1, d2] }
  | _ => none }
def FnIsPluralDependsOnLastTwoBytesOnlyWrongFalsely : Prop := fnIsPluralDependsOnLastTwoBytesOnlyRow.holds Try.pinned (OpenSpec.ofChange fnIsPluralDependsOnLastTwoBytesOnlyWrong)

/-- 'zzlaws_root_b1.FnIsPluralRefusesSingularEndings': WHATEVER THE INPUT: true; the input reads as it did. -/
def fnIsPluralRefusesSingularEndingsSpec : ChangeSpec := { name := "fnIsPluralRefusesSingularEndings", fn := fun _ => fun
  | [d] => { results := [.lit (.bool true)], args := [d] }
  | _ => none }
def fnIsPluralRefusesSingularEndingsRow : OpenClaim := { program := "qxb6602905a", sum := "8d18890a069aedf1761f2e6afab5b44e556aa09a3d186827001b2894cae5d215", func := "example.com/kapable/kapable/zzlaws_root_b1.FnIsPluralRefusesSingularEndings", spec := "fnIsPluralRefusesSingularEndings", apart := false }
def FnIsPluralRefusesSingularEndingsSaid : Prop := fnIsPluralRefusesSingularEndingsRow.holds Try.pinned (OpenSpec.ofChange fnIsPluralRefusesSingularEndingsSpec)

/-- ITS FALSE NEIGHBOUR: 'it returns false'. Refute it at one input. -/
def fnIsPluralRefusesSingularEndingsWrong : ChangeSpec := { name := "fnIsPluralRefusesSingularEndings", fn := fun _ => fun
  | [d] => { results := [.lit (.bool false)], args := [d] }
  | _ => none }
def FnIsPluralRefusesSingularEndingsWrongFalsely : Prop := fnIsPluralRefusesSingularEndingsRow.holds Try.pinned (OpenSpec.ofChange fnIsPluralRefusesSingularEndingsWrong)

end Rows
end Go.Proofs.Qxb6602905a
