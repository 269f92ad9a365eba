/-
  No cell of these rows narrows 'for every input' (looked for: loops, veiled, ifaces, maps, wideKeys, modest, calm, conditions, laid).
  DERIVED. THE GIVEN ROWS OF THIS SEAT. 3 by the template 'for every input the law returns true; each argument reads behind the call as it read before'; 0 by the template 'total and deterministic' (their statements: Qxb6603955aTotals.lean).
  GIVEN WITH THE SEED: the statements are not yours to turn. If you find one false, say at which input.
  Laid BY PROGRAM, IN A SANDBOX (cutbox-rows.mjs): the forced cells as the released guide's own fill.sh prints them over the translation fdc97c6a27d3d0bb… (all of the seat's roots in one cut). By AI agents, Wed Nov 11 2026. No macro, syntax, notation, axiom, sorry.
-/
import Derived.Test.Qxb6603955aChecked
import GoSem.Claim
import GoSem.ClaimJoined
import GoSem.ClaimMapViews
import Derived.JoinedTies
import Derived.KernelRfl
namespace Go.Proofs.Qxb6603955a
/- THE CELL 'sum', in the pinned program and in every row, IS THE sha256 OF THE DUMP (.gsa) THAT Qxb6603955aProg.lean LOADS. Nothing in Lean hashes anything: it is a label: what it is worth is what the hold of that sum in a sandbox is worth. -/
noncomputable def Try.pinned : Pinned := { name := "qxb6603955a", sum := "fdc97c6a27d3d0bbd75f5fae86542f6a715e837f3304991e86ad70b74baf4901", checked := Try.checked }
namespace Rows
def none {H : Type} : Left H := { results := [], args := [] }

/-- 'zzlaws_internal_store_b1.FnCopyValuesMatchesInput': WHATEVER THE INPUT: true; the input reads as it did. -/
def fnCopyValuesMatchesInputSpec : ChangeSpec := { name := "fnCopyValuesMatchesInput", fn := fun _ => fun
  | [d] => { results := [.lit (.bool true)], args := [d] }
  | _ => none }
def fnCopyValuesMatchesInputRow : OpenClaim := { program := "qxb6603955a", sum := "fdc97c6a27d3d0bbd75f5fae86542f6a715e837f3304991e86ad70b74baf4901", func := "example.com/holdfast/holdfast/zzlaws_internal_store_b1.FnCopyValuesMatchesInput", spec := "fnCopyValuesMatchesInput", apart := false }
def FnCopyValuesMatchesInputSaid : Prop := fnCopyValuesMatchesInputRow.holds Try.pinned (OpenSpec.ofChange fnCopyValuesMatchesInputSpec)

/-- ITS FALSE NEIGHBOUR: 'it returns false'. Refute it at one input. -/
def fnCopyValuesMatchesInputWrong : ChangeSpec := { name := "fnCopyValuesMatchesInput", fn := fun _ => fun
  | [d] => { results := [.lit (.bool false)], args := [d] }
  | _ => none }
def FnCopyValuesMatchesInputWrongFalsely : Prop := fnCopyValuesMatchesInputRow.holds Try.pinned (OpenSpec.ofChange fnCopyValuesMatchesInputWrong)

/-- 'zzlaws_internal_store_b1.FnCopyValuesOwnsItsMemory': WHATEVER THE INPUT: true; the input reads as it did. -/
def fnCopyValuesOwnsItsMemorySpec : ChangeSpec := { name := "fnCopyValuesOwnsItsMemory", fn := fun _ => fun
  | [d] => { results := [.lit (.bool true)], args := [d] }
  | _ => none }
def fnCopyValuesOwnsItsMemoryRow : OpenClaim := { program := "qxb6603955a", sum := "fdc97c6a27d3d0bbd75f5fae86542f6a715e837f3304991e86ad70b74baf4901", func := "example.com/holdfast/holdfast/zzlaws_internal_store_b1.FnCopyValuesOwnsItsMemory", spec := "fnCopyValuesOwnsItsMemory", apart := false }
def FnCopyValuesOwnsItsMemorySaid : Prop := fnCopyValuesOwnsItsMemoryRow.holds Try.pinned (OpenSpec.ofChange fnCopyValuesOwnsItsMemorySpec)

/-- ITS FALSE NEIGHBOUR: 'it returns false'. Refute it at one input. -/
def fnCopyValuesOwnsItsMemoryWrong : ChangeSpec := { name := "fnCopyValuesOwnsItsMemory", fn := fun _ => fun
  | [d] => { results := [.lit (.bool false)], args := [d] }
  | _ => none }
def FnCopyValuesOwnsItsMemoryWrongFalsely : Prop := fnCopyValuesOwnsItsMemoryRow.holds Try.pinned (OpenSpec.ofChange fnCopyValuesOwnsItsMemoryWrong)

/-- 'zzlaws_internal_store_b1.FnListedExact': WHATEVER THE INPUT: true; the input reads as it did. -/
def fnListedExactSpec : ChangeSpec := { name := "fnListedExact", fn := fun _ => fun
  | [d1, d2] => { results := [.lit (.bool true)], args := [d1, d2] }
  | _ => none }
def fnListedExactRow : OpenClaim := { program := "qxb6603955a", sum := "fdc97c6a27d3d0bbd75f5fae86542f6a715e837f3304991e86ad70b74baf4901", func := "example.com/holdfast/holdfast/zzlaws_internal_store_b1.FnListedExact", spec := "fnListedExact", apart := false }
def FnListedExactSaid : Prop := fnListedExactRow.holds Try.pinned (OpenSpec.ofChange fnListedExactSpec)

/-- ITS FALSE NEIGHBOUR: 'it returns false'. Refute it at one input. -/
def fnListedExactWrong : ChangeSpec := { name := "fnListedExact", fn := fun _ => fun
  | [d1, d2] => { results := [.lit (.bool false)], args := [d1, d2] }
  | _ => none }
def FnListedExactWrongFalsely : Prop := fnListedExactRow.holds Try.pinned (OpenSpec.ofChange fnListedExactWrong)

end Rows
end Go.Proofs.Qxb6603955a
