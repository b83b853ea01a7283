/-
  No cell of these rows narrows 'for every input' (looked for: loops, veiled, ifaces, maps, wideKeys, modest, calm, conditions, laid).
  DERIVED. THE GIVEN ROWS OF THIS SEAT. 2 by the template 'for every input the law returns true; each argument reads behind the call as it read before'; 0 by the template 'total and deterministic' (their statements: Qxb6616249aTotals.lean).
  GIVEN WITH THE SEED: the statements are not yours to turn. If you find one false, say at which input.
  Laid BY PROGRAM, IN A SANDBOX (cutbox-rows.mjs): the forced cells as the released guide's own fill.sh prints them over the translation f3df458ca24c9d95… (all of the seat's roots in one cut). By AI agents, Wed Nov 11 2026. No macro, syntax, notation, axiom, sorry.
-/
import Derived.Test.Qxb6616249aChecked
import GoSem.Claim
import GoSem.ClaimJoined
import GoSem.ClaimMapViews
import Derived.JoinedTies
import Derived.KernelRfl
namespace Go.Proofs.Qxb6616249a
/- THE CELL 'sum', in the pinned program and in every row, IS THE sha256 OF THE DUMP (.gsa) THAT Qxb6616249aProg.lean LOADS. Nothing in Lean hashes anything: it is a label: what it is worth is what the hold of that sum in a sandbox is worth. -/
noncomputable def Try.pinned : Pinned := { name := "qxb6616249a", sum := "f3df458ca24c9d956b31f5231bc5a16a11e5ee34261c8e53f801ee983c96fccd", checked := Try.checked }
namespace Rows
def none {H : Type} : Left H := { results := [], args := [] }

/-- 'zzlaws_root_b1.FnDateCompareIsTheOrderOfDays': WHATEVER THE INPUT: true; the input reads as it did. -/
def fnDateCompareIsTheOrderOfDaysSpec : ChangeSpec := { name := "fnDateCompareIsTheOrderOfDays", fn := fun _ => fun
  | [d1, d2, d3] => { results := [.lit (.bool true)], args := [d1, d2, d3] }
  | _ => none }
def fnDateCompareIsTheOrderOfDaysRow : OpenClaim := { program := "qxb6616249a", sum := "f3df458ca24c9d956b31f5231bc5a16a11e5ee34261c8e53f801ee983c96fccd", func := "example.com/chronolex/chronolex/zzlaws_root_b1.FnDateCompareIsTheOrderOfDays", spec := "fnDateCompareIsTheOrderOfDays", apart := false }
def FnDateCompareIsTheOrderOfDaysSaid : Prop := fnDateCompareIsTheOrderOfDaysRow.holds Try.pinned (OpenSpec.ofChange fnDateCompareIsTheOrderOfDaysSpec)

/-- ITS FALSE NEIGHBOUR: 'it returns false'. Refute it at one input. -/
def fnDateCompareIsTheOrderOfDaysWrong : ChangeSpec := { name := "fnDateCompareIsTheOrderOfDays", fn := fun _ => fun
  | [d1, d2, d3] => { results := [.lit (.bool false)], args := [d1, d2, d3] }
  | _ => none }
def FnDateCompareIsTheOrderOfDaysWrongFalsely : Prop := fnDateCompareIsTheOrderOfDaysRow.holds Try.pinned (OpenSpec.ofChange fnDateCompareIsTheOrderOfDaysWrong)

/-- 'zzlaws_root_b1.FnIsBlankIsWhatTrimBlanksStrips': WHATEVER THE INPUT: true; the input reads as it did. -/
def fnIsBlankIsWhatTrimBlanksStripsSpec : ChangeSpec := { name := "fnIsBlankIsWhatTrimBlanksStrips", fn := fun _ => fun
  | [d1, d2] => { results := [.lit (.bool true)], args := [d1, d2] }
  | _ => none }
def fnIsBlankIsWhatTrimBlanksStripsRow : OpenClaim := { program := "qxb6616249a", sum := "f3df458ca24c9d956b31f5231bc5a16a11e5ee34261c8e53f801ee983c96fccd", func := "example.com/chronolex/chronolex/zzlaws_root_b1.FnIsBlankIsWhatTrimBlanksStrips", spec := "fnIsBlankIsWhatTrimBlanksStrips", apart := false }
def FnIsBlankIsWhatTrimBlanksStripsSaid : Prop := fnIsBlankIsWhatTrimBlanksStripsRow.holds Try.pinned (OpenSpec.ofChange fnIsBlankIsWhatTrimBlanksStripsSpec)

/-- ITS FALSE NEIGHBOUR: 'it returns false'. Refute it at one input. -/
def fnIsBlankIsWhatTrimBlanksStripsWrong : ChangeSpec := { name := "fnIsBlankIsWhatTrimBlanksStrips", fn := fun _ => fun
  | [d1, d2] => { results := [.lit (.bool false)], args := [d1, d2] }
  | _ => none }
def FnIsBlankIsWhatTrimBlanksStripsWrongFalsely : Prop := fnIsBlankIsWhatTrimBlanksStripsRow.holds Try.pinned (OpenSpec.ofChange fnIsBlankIsWhatTrimBlanksStripsWrong)

end Rows
end Go.Proofs.Qxb6616249a
