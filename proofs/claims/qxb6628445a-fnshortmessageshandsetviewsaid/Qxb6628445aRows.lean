/-
  No cell of these rows narrows 'for every input' (looked for: loops, veiled, ifaces, maps, wideKeys, modest, calm, conditions, laid).
  DERIVED. THE GIVEN ROWS OF THIS SEAT. 2 by the template 'for every input the law returns true; each argument reads behind the call as it read before'; 0 by the template 'total and deterministic' (their statements: Qxb6628445aTotals.lean).
  GIVEN WITH THE SEED: the statements are not yours to turn. If you find one false, say at which input.
  Laid BY PROGRAM, IN A SANDBOX (cutbox-rows.mjs): the forced cells as the released guide's own fill.sh prints them over the translation 6d05620598735048… (all of the seat's roots in one cut). By AI agents, Wed Nov 11 2026. No macro, syntax, notation, axiom, sorry.
-/
import Derived.Test.Qxb6628445aChecked
import GoSem.Claim
import GoSem.ClaimJoined
import GoSem.ClaimMapViews
import Derived.JoinedTies
import Derived.KernelRfl
namespace Go.Proofs.Qxb6628445a
/- THE CELL 'sum', in the pinned program and in every row, IS THE sha256 OF THE DUMP (.gsa) THAT Qxb6628445aProg.lean LOADS. Nothing in Lean hashes anything: it is a label: what it is worth is what the hold of that sum in a sandbox is worth. -/
noncomputable def Try.pinned : Pinned := { name := "qxb6628445a", sum := "6d05620598735048144a6dfd9646b71a8e6f96aa9335c44a01394d04f7f0bf8b", checked := Try.checked }
namespace Rows
def none {H : Type} : Left H := { results := [], args := [] }

/-- 'zzlaws_smstext_b1.FnShortMessagesHandsetView': WHATEVER THE INPUT: true; the input reads as it did. -/
def fnShortMessagesHandsetViewSpec : ChangeSpec := { name := "fnShortMessagesHandsetView", fn := fun _ => fun
  | [d1, d2, d3, d4, d5] => { results := [.lit (.bool true)], args := [d1, d2, d3, d4, d5] }
  | _ => none }
def fnShortMessagesHandsetViewRow : OpenClaim := { program := "qxb6628445a", sum := "6d05620598735048144a6dfd9646b71a8e6f96aa9335c44a01394d04f7f0bf8b", func := "example.com/signalpost/signalpost/zzlaws_smstext_b1.FnShortMessagesHandsetView", spec := "fnShortMessagesHandsetView", apart := false }
def FnShortMessagesHandsetViewSaid : Prop := fnShortMessagesHandsetViewRow.holds Try.pinned (OpenSpec.ofChange fnShortMessagesHandsetViewSpec)

/-- ITS FALSE NEIGHBOUR: 'it returns false'. Refute it at one input. -/
def fnShortMessagesHandsetViewWrong : ChangeSpec := { name := "fnShortMessagesHandsetView", fn := fun _ => fun
  | [d1, d2, d3, d4, d5] => { results := [.lit (.bool false)], args := [d1, d2, d3, d4, d5] }
  | _ => none }
def FnShortMessagesHandsetViewWrongFalsely : Prop := fnShortMessagesHandsetViewRow.holds Try.pinned (OpenSpec.ofChange fnShortMessagesHandsetViewWrong)

/-- 'zzlaws_smstext_b1.FnShortMessagesRefStampsOnlyByteThree': WHATEVER THE INPUT: true; the input reads as it did. -/
def fnShortMessagesRefStampsOnlyByteThreeSpec : ChangeSpec := { name := "fnShortMessagesRefStampsOnlyByteThree", fn := fun _ => fun
  | [d1, d2, d3, d4, d5, d6] => { results := [.lit (.bool true)], args := [d1, d2, d3, d4, d5, d6] }
  | _ => none }
def fnShortMessagesRefStampsOnlyByteThreeRow : OpenClaim := { program := "qxb6628445a", sum := "6d05620598735048144a6dfd9646b71a8e6f96aa9335c44a01394d04f7f0bf8b", func := "example.com/signalpost/signalpost/zzlaws_smstext_b1.FnShortMessagesRefStampsOnlyByteThree", spec := "fnShortMessagesRefStampsOnlyByteThree", apart := false }
def FnShortMessagesRefStampsOnlyByteThreeSaid : Prop := fnShortMessagesRefStampsOnlyByteThreeRow.holds Try.pinned (OpenSpec.ofChange fnShortMessagesRefStampsOnlyByteThreeSpec)

/-- ITS FALSE NEIGHBOUR: 'it returns false'. Refute it at one input. -/
def fnShortMessagesRefStampsOnlyByteThreeWrong : ChangeSpec := { name := "fnShortMessagesRefStampsOnlyByteThree", fn := fun _ => fun
  | [d1, d2, d3, d4, d5, d6] => { results := [.lit (.bool false)], args := [d1, d2, d3, d4, d5, d6] }
  | _ => none }
def FnShortMessagesRefStampsOnlyByteThreeWrongFalsely : Prop := fnShortMessagesRefStampsOnlyByteThreeRow.holds Try.pinned (OpenSpec.ofChange fnShortMessagesRefStampsOnlyByteThreeWrong)

end Rows
end Go.Proofs.Qxb6628445a
