/-
  No cell of these rows narrows 'for every input' (looked for: loops, veiled, ifaces, maps, wideKeys, modest, calm, conditions, laid).
  DERIVED. THE GIVEN ROWS OF THIS SEAT. 2 by the template 'for every input the law returns true; each argument reads behind the call as it read before'; 0 by the template 'total and deterministic' (their statements: Qxb6617642aTotals.lean).
  GIVEN WITH THE SEED: the statements are not yours to turn. If you find one false, say at which input.
  Laid BY PROGRAM, IN A SANDBOX (cutbox-rows.mjs): the forced cells as the released guide's own fill.sh prints them over the translation 5be63a399ce0f67c… (all of the seat's roots in one cut). By AI agents, Wed Nov 11 2026. No macro, syntax, notation, axiom, sorry.
-/
import Derived.Test.Qxb6617642aChecked
import GoSem.Claim
import GoSem.ClaimJoined
import GoSem.ClaimMapViews
import Derived.JoinedTies
import Derived.KernelRfl
namespace Go.Proofs.Qxb6617642a
/- THE CELL 'sum', in the pinned program and in every row, IS THE sha256 OF THE DUMP (.gsa) THAT Qxb6617642aProg.lean LOADS. Nothing in Lean hashes anything: it is a label: what it is worth is what the hold of that sum in a sandbox is worth. -/
noncomputable def Try.pinned : Pinned := { name := "qxb6617642a", sum := "5be63a399ce0f67c46f09fd4bed5ef04b4e33f032791cc092d78a6fb1bd0a338", checked := Try.checked }
namespace Rows
def none {H : Type} : Left H := { results := [], args := [] }

/-- 'zzlaws_pkg_apikey_b1.FnAllowsSplitAtAnyCut': WHATEVER THE INPUT: true; the input reads as it did. -/
def fnAllowsSplitAtAnyCutSpec : ChangeSpec := { name := "fnAllowsSplitAtAnyCut", fn := fun _ => fun
  | [d1, d2, d3, d4] => { results := [.lit (.bool true)], args := [d1, d2, d3, d4] }
  | _ => none }
def fnAllowsSplitAtAnyCutRow : OpenClaim := { program := "qxb6617642a", sum := "5be63a399ce0f67c46f09fd4bed5ef04b4e33f032791cc092d78a6fb1bd0a338", func := "example.com/link1/link1/zzlaws_pkg_apikey_b1.FnAllowsSplitAtAnyCut", spec := "fnAllowsSplitAtAnyCut", apart := false }
def FnAllowsSplitAtAnyCutSaid : Prop := fnAllowsSplitAtAnyCutRow.holds Try.pinned (OpenSpec.ofChange fnAllowsSplitAtAnyCutSpec)

/-- ITS FALSE NEIGHBOUR: 'it returns false'. Refute it at one input. -/
def fnAllowsSplitAtAnyCutWrong : ChangeSpec := { name := "fnAllowsSplitAtAnyCut", fn := fun _ => fun
  | [d1, d2, d3, d4] => { results := [.lit (.bool false)], args := [d1, d2, d3, d4] }
  | _ => none }
def FnAllowsSplitAtAnyCutWrongFalsely : Prop := fnAllowsSplitAtAnyCutRow.holds Try.pinned (OpenSpec.ofChange fnAllowsSplitAtAnyCutWrong)

/-- 'zzlaws_pkg_apikey_b1.FnAllowsAfterInsertAnywhere': WHATEVER THE INPUT: true; the input reads as it did. -/
def fnAllowsAfterInsertAnywhereSpec : ChangeSpec := { name := "fnAllowsAfterInsertAnywhere", fn := fun _ => fun
  | [d1, d2, d3, d4, d5] => { results := [.lit (.bool true)], args := [d1, d2, d3, d4, d5] }
  | _ => none }
def fnAllowsAfterInsertAnywhereRow : OpenClaim := { program := "qxb6617642a", sum := "5be63a399ce0f67c46f09fd4bed5ef04b4e33f032791cc092d78a6fb1bd0a338", func := "example.com/link1/link1/zzlaws_pkg_apikey_b1.FnAllowsAfterInsertAnywhere", spec := "fnAllowsAfterInsertAnywhere", apart := false }
def FnAllowsAfterInsertAnywhereSaid : Prop := fnAllowsAfterInsertAnywhereRow.holds Try.pinned (OpenSpec.ofChange fnAllowsAfterInsertAnywhereSpec)

/-- ITS FALSE NEIGHBOUR: 'it returns false'. Refute it at one input. -/
def fnAllowsAfterInsertAnywhereWrong : ChangeSpec := { name := "fnAllowsAfterInsertAnywhere", fn := fun _ => fun
  | [d1, d2, d3, d4, d5] => { results := [.lit (.bool false)], args := [d1, d2, d3, d4, d5] }
  | _ => none }
def FnAllowsAfterInsertAnywhereWrongFalsely : Prop := fnAllowsAfterInsertAnywhereRow.holds Try.pinned (OpenSpec.ofChange fnAllowsAfterInsertAnywhereWrong)

end Rows
end Go.Proofs.Qxb6617642a
