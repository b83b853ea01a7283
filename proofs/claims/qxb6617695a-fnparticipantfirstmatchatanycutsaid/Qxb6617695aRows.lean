/-
  No cell of these rows narrows 'for every input' (looked for: loops, veiled, ifaces, maps, wideKeys, modest, calm, conditions, laid).
  DERIVED. THE GIVEN ROWS OF THIS SEAT. 1 by the template 'for every input the law returns true; each argument reads behind the call as it read before'; 0 by the template 'total and deterministic' (their statements: Qxb6617695aTotals.lean).
  GIVEN WITH THE SEED: the statements are not yours to turn. If you find one false, say at which input.
  Laid BY PROGRAM, IN A SANDBOX (cutbox-rows.mjs): the forced cells as the released guide's own fill.sh prints them over the translation 02ac892369765bc5… (all of the seat's roots in one cut). By AI agents, Wed Nov 11 2026. No macro, syntax, notation, axiom, sorry.
-/
import Derived.Test.Qxb6617695aChecked
import GoSem.Claim
import GoSem.ClaimJoined
import GoSem.ClaimMapViews
import Derived.JoinedTies
import Derived.KernelRfl
namespace Go.Proofs.Qxb6617695a
/- THE CELL 'sum', in the pinned program and in every row, IS THE sha256 OF THE DUMP (.gsa) THAT Qxb6617695aProg.lean LOADS. Nothing in Lean hashes anything: it is a label: what it is worth is what the hold of that sum in a sandbox is worth. -/
noncomputable def Try.pinned : Pinned := { name := "qxb6617695a", sum := "02ac892369765bc56708031e1b31718e998f160c026172197ca263dfcc425109", checked := Try.checked }
namespace Rows
def none {H : Type} : Left H := { results := [], args := [] }

/-- 'zzlaws_internal_freeze_b1.FnParticipantFirstMatchAtAnyCut': WHATEVER THE INPUT: true; the input reads as it did. -/
def fnParticipantFirstMatchAtAnyCutSpec : ChangeSpec := { name := "fnParticipantFirstMatchAtAnyCut", fn := fun _ => fun
  | [d1, d2, d3, d4, d5, d6, d7, d8] => { results := [.lit (.bool true)], args := [d1, d2, d3, d4, d5, d6, d7, d8] }
  | _ => none }
def fnParticipantFirstMatchAtAnyCutRow : OpenClaim := { program := "qxb6617695a", sum := "02ac892369765bc56708031e1b31718e998f160c026172197ca263dfcc425109", func := "example.com/tidemark/tidemark/zzlaws_internal_freeze_b1.FnParticipantFirstMatchAtAnyCut", spec := "fnParticipantFirstMatchAtAnyCut", inPlace := ["internal/bytealg.abigen_runtime_cmpstring"], unfollowed := true, recurses := true, apart := false }
def FnParticipantFirstMatchAtAnyCutSaid : Prop := fnParticipantFirstMatchAtAnyCutRow.holds Try.pinned (OpenSpec.ofChange fnParticipantFirstMatchAtAnyCutSpec)

/-- ITS FALSE NEIGHBOUR: 'it returns false'. Refute it at one input. -/
def fnParticipantFirstMatchAtAnyCutWrong : ChangeSpec := { name := "fnParticipantFirstMatchAtAnyCut", fn := fun _ => fun
  | [d1, d2, d3, d4, d5, d6, d7, d8] => { results := [.lit (.bool false)], args := [d1, d2, d3, d4, d5, d6, d7, d8] }
  | _ => none }
def FnParticipantFirstMatchAtAnyCutWrongFalsely : Prop := fnParticipantFirstMatchAtAnyCutRow.holds Try.pinned (OpenSpec.ofChange fnParticipantFirstMatchAtAnyCutWrong)

end Rows
end Go.Proofs.Qxb6617695a
