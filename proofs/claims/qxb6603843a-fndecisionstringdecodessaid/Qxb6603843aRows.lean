/-
  No cell of these rows narrows 'for every input' (looked for: loops, veiled, ifaces, maps, wideKeys, modest, calm, conditions, laid).
  DERIVED. THE GIVEN ROWS OF THIS SEAT. 2 by the template 'for every input the law returns true; each argument reads behind the call as it read before'; 0 by the template 'total and deterministic' (their statements: Qxb6603843aTotals.lean).
  GIVEN WITH THE SEED: the statements are not yours to turn. If you find one false, say at which input.
  Laid BY PROGRAM, IN A SANDBOX (cutbox-rows.mjs): the forced cells as the released guide's own fill.sh prints them over the translation ed64e442125b380d… (all of the seat's roots in one cut). By AI agents, Wed Nov 11 2026. No macro, syntax, notation, axiom, sorry.
-/
import Derived.Test.Qxb6603843aChecked
import GoSem.Claim
import GoSem.ClaimJoined
import GoSem.ClaimMapViews
import Derived.JoinedTies
import Derived.KernelRfl
namespace Go.Proofs.Qxb6603843a
/- THE CELL 'sum', in the pinned program and in every row, IS THE sha256 OF THE DUMP (.gsa) THAT Qxb6603843aProg.lean LOADS. Nothing in Lean hashes anything: it is a label: what it is worth is what the hold of that sum in a sandbox is worth. -/
noncomputable def Try.pinned : Pinned := { name := "qxb6603843a", sum := "ed64e442125b380d87addad15471963aed2bfffae1a99302a66e5569e5f4d96c", checked := Try.checked }
namespace Rows
def none {H : Type} : Left H := { results := [], args := [] }

/-- 'zzlaws_instructions_b1.FnDecisionStringLength': WHATEVER THE INPUT: true; the input reads as it did. -/
def fnDecisionStringLengthSpec : ChangeSpec := { name := "fnDecisionStringLength", fn := fun _ => fun
  | [d1, d2] => { results := [.lit (.bool true)], args := [d1, d2] }
  | _ => none }
def fnDecisionStringLengthRow : OpenClaim := { program := "qxb6603843a", sum := "ed64e442125b380d87addad15471963aed2bfffae1a99302a66e5569e5f4d96c", func := "example.com/tuoguan/tuoguan/zzlaws_instructions_b1.FnDecisionStringLength", spec := "fnDecisionStringLength", inPlace := ["internal/abi.NoEscape", "internal/bytealg.MakeNoZero"], apart := false }
def FnDecisionStringLengthSaid : Prop := fnDecisionStringLengthRow.holds Try.pinned (OpenSpec.ofChange fnDecisionStringLengthSpec)

/-- ITS FALSE NEIGHBOUR: 'it returns false'. Refute it at one input. -/
def fnDecisionStringLengthWrong : ChangeSpec := { name := "fnDecisionStringLength", fn := fun _ => fun
  | [d1, d2] => { results := [.lit (.bool false)], args := [d1, d2] }
  | _ => none }
def FnDecisionStringLengthWrongFalsely : Prop := fnDecisionStringLengthRow.holds Try.pinned (OpenSpec.ofChange fnDecisionStringLengthWrong)

/-- 'zzlaws_instructions_b1.FnDecisionStringDecodes': WHATEVER THE INPUT: true; the input reads as it did. -/
def fnDecisionStringDecodesSpec : ChangeSpec := { name := "fnDecisionStringDecodes", fn := fun _ => fun
  | [d1, d2] => { results := [.lit (.bool true)], args := [d1, d2] }
  | _ => none }
def fnDecisionStringDecodesRow : OpenClaim := { program := "qxb6603843a", sum := "ed64e442125b380d87addad15471963aed2bfffae1a99302a66e5569e5f4d96c", func := "example.com/tuoguan/tuoguan/zzlaws_instructions_b1.FnDecisionStringDecodes", spec := "fnDecisionStringDecodes", inPlace := ["internal/abi.NoEscape", "internal/bytealg.MakeNoZero"], apart := false }
def FnDecisionStringDecodesSaid : Prop := fnDecisionStringDecodesRow.holds Try.pinned (OpenSpec.ofChange fnDecisionStringDecodesSpec)

/-- ITS FALSE NEIGHBOUR: 'it returns false'. Refute it at one input. -/
def fnDecisionStringDecodesWrong : ChangeSpec := { name := "fnDecisionStringDecodes", fn := fun _ => fun
  | [d1, d2] => { results := [.lit (.bool false)], args := [d1, d2] }
  | _ => none }
def FnDecisionStringDecodesWrongFalsely : Prop := fnDecisionStringDecodesRow.holds Try.pinned (OpenSpec.ofChange fnDecisionStringDecodesWrong)

end Rows
end Go.Proofs.Qxb6603843a
