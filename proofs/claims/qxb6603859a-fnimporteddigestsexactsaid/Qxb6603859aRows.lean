/-
  No cell of these rows narrows 'for every input' (looked for: loops, veiled, ifaces, maps, wideKeys, modest, calm, conditions, laid).
  DERIVED. THE GIVEN ROWS OF THIS SEAT. 2 by the template 'for every input the law returns true; each argument reads behind the call as it read before'; 0 by the template 'total and deterministic' (their statements: Qxb6603859aTotals.lean).
  GIVEN WITH THE SEED: the statements are not yours to turn. If you find one false, say at which input.
  Laid BY PROGRAM, IN A SANDBOX (cutbox-rows.mjs): the forced cells as the released guide's own fill.sh prints them over the translation e6fe1d58ee4b4b44… (all of the seat's roots in one cut). By AI agents, Wed Nov 11 2026. No macro, syntax, notation, axiom, sorry.
-/
import Derived.Test.Qxb6603859aChecked
import GoSem.Claim
import GoSem.ClaimJoined
import GoSem.ClaimMapViews
import Derived.JoinedTies
import Derived.KernelRfl
namespace Go.Proofs.Qxb6603859a
/- THE CELL 'sum', in the pinned program and in every row, IS THE sha256 OF THE DUMP (.gsa) THAT Qxb6603859aProg.lean LOADS. Nothing in Lean hashes anything: it is a label: what it is worth is what the hold of that sum in a sandbox is worth. -/
noncomputable def Try.pinned : Pinned := { name := "qxb6603859a", sum := "e6fe1d58ee4b4b44d59fb8df388a622cc107883b2fc2c589c916a06a9a5b1b52", checked := Try.checked }
namespace Rows
def none {H : Type} : Left H := { results := [], args := [] }

/-- 'zzlaws_root_b1.FnLineBreakRunCountsLineFeeds': WHATEVER THE INPUT: true; the input reads as it did. -/
def fnLineBreakRunCountsLineFeedsSpec : ChangeSpec := { name := "fnLineBreakRunCountsLineFeeds", fn := fun _ => fun
  | [d1, d2, d3] => { results := [.lit (.bool true)], args := [d1, d2, d3] }
  | _ => none }
def fnLineBreakRunCountsLineFeedsRow : OpenClaim := { program := "qxb6603859a", sum := "e6fe1d58ee4b4b44d59fb8df388a622cc107883b2fc2c589c916a06a9a5b1b52", func := "example.com/keystitch/keystitch/zzlaws_root_b1.FnLineBreakRunCountsLineFeeds", spec := "fnLineBreakRunCountsLineFeeds", apart := false }
def FnLineBreakRunCountsLineFeedsSaid : Prop := fnLineBreakRunCountsLineFeedsRow.holds Try.pinned (OpenSpec.ofChange fnLineBreakRunCountsLineFeedsSpec)

/-- ITS FALSE NEIGHBOUR: 'it returns false'. Refute it at one input. -/
def fnLineBreakRunCountsLineFeedsWrong : ChangeSpec := { name := "fnLineBreakRunCountsLineFeeds", fn := fun _ => fun
  | [d1, d2, d3] => { results := [.lit (.bool false)], args := [d1, d2, d3] }
  | _ => none }
def FnLineBreakRunCountsLineFeedsWrongFalsely : Prop := fnLineBreakRunCountsLineFeedsRow.holds Try.pinned (OpenSpec.ofChange fnLineBreakRunCountsLineFeedsWrong)

/-- 'zzlaws_root_b1.FnImportedDigestsExact': WHATEVER THE INPUT: true; the input reads as it did. -/
def fnImportedDigestsExactSpec : ChangeSpec := { name := "fnImportedDigestsExact", fn := fun _ => fun
  | [d] => { results := [.lit (.bool true)], args := [d] }
  | _ => none }
def fnImportedDigestsExactRow : OpenClaim := { program := "qxb6603859a", sum := "e6fe1d58ee4b4b44d59fb8df388a622cc107883b2fc2c589c916a06a9a5b1b52", func := "example.com/keystitch/keystitch/zzlaws_root_b1.FnImportedDigestsExact", spec := "fnImportedDigestsExact", recurses := true, apart := false }
def FnImportedDigestsExactSaid : Prop := fnImportedDigestsExactRow.holds Try.pinned (OpenSpec.ofChange fnImportedDigestsExactSpec)

/-- ITS FALSE NEIGHBOUR: 'it returns false'. Refute it at one input. -/
def fnImportedDigestsExactWrong : ChangeSpec := { name := "fnImportedDigestsExact", fn := fun _ => fun
  | [d] => { results := [.lit (.bool false)], args := [d] }
  | _ => none }
def FnImportedDigestsExactWrongFalsely : Prop := fnImportedDigestsExactRow.holds Try.pinned (OpenSpec.ofChange fnImportedDigestsExactWrong)

end Rows
end Go.Proofs.Qxb6603859a
