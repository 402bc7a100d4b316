/-
  No cell of these rows narrows 'for every input' (looked for: loops, veiled, ifaces, maps, wideKeys, modest, calm, conditions, laid).
  DERIVED. THE GIVEN ROWS OF THIS SEAT. 2 by the template 'for every input the law returns true; each argument reads behind the call as it read before'; 0 by the template 'total and deterministic' (their statements: Qxb6629007aTotals.lean).
  GIVEN WITH THE SEED: the statements are not yours to turn. If you find one false, say at which input.
  Laid BY PROGRAM, IN A SANDBOX (cutbox-rows.mjs): the forced cells as the released guide's own fill.sh prints them over the translation 2f4ab90391a453f3… (all of the seat's roots in one cut). By AI agents, Wed Nov 11 2026. No macro, syntax, notation, axiom, sorry.
-/
import Derived.Test.Qxb6629007aChecked
import GoSem.Claim
import GoSem.ClaimJoined
import GoSem.ClaimMapViews
import Derived.JoinedTies
import Derived.KernelRfl
namespace Go.Proofs.Qxb6629007a
/- THE CELL 'sum', in the pinned program and in every row, IS THE sha256 OF THE DUMP (.gsa) THAT Qxb6629007aProg.lean LOADS. Nothing in Lean hashes anything: it is a label: what it is worth is what the hold of that sum in a sandbox is worth. -/
noncomputable def Try.pinned : Pinned := { name := "qxb6629007a", sum := "2f4ab90391a453f3982d6024d92371f5b74bf6d7099b65fa39b87b247b8dc3de", checked := Try.checked }
namespace Rows
def none {H : Type} : Left H := { results := [], args := [] }

/-- 'zzlaws_window_b1.FnCutterAddCutsAndMeasuresWindows': WHATEVER THE INPUT: true; the input reads as it did. -/
def fnCutterAddCutsAndMeasuresWindowsSpec : ChangeSpec := { name := "fnCutterAddCutsAndMeasuresWindows", fn := fun _ => fun
  | [d1, d2, d3, d4] => { results := [.lit (.bool true)], args := [d1, d2, d3, d4] }
  | _ => none }
def fnCutterAddCutsAndMeasuresWindowsRow : OpenClaim := { program := "qxb6629007a", sum := "2f4ab90391a453f3982d6024d92371f5b74bf6d7099b65fa39b87b247b8dc3de", func := "example.com/fragline/fragline/zzlaws_window_b1.FnCutterAddCutsAndMeasuresWindows", spec := "fnCutterAddCutsAndMeasuresWindows", recurses := true, apart := false }
def FnCutterAddCutsAndMeasuresWindowsSaid : Prop := fnCutterAddCutsAndMeasuresWindowsRow.holds Try.pinned (OpenSpec.ofChange fnCutterAddCutsAndMeasuresWindowsSpec)

/-- ITS FALSE NEIGHBOUR: 'it returns false'. Refute it at one input. -/
def fnCutterAddCutsAndMeasuresWindowsWrong : ChangeSpec := { name := "fnCutterAddCutsAndMeasuresWindows", fn := fun _ => fun
  | [d1, d2, d3, d4] => { results := [.lit (.bool false)], args := [d1, d2, d3, d4] }
  | _ => none }
def FnCutterAddCutsAndMeasuresWindowsWrongFalsely : Prop := fnCutterAddCutsAndMeasuresWindowsRow.holds Try.pinned (OpenSpec.ofChange fnCutterAddCutsAndMeasuresWindowsWrong)

/-- 'zzlaws_window_b1.FnCutterAddIgnoresTheClocksOrigin': WHATEVER THE INPUT: true; the input reads as it did. -/
def fnCutterAddIgnoresTheClocksOriginSpec : ChangeSpec := { name := "fnCutterAddIgnoresTheClocksOrigin", fn := fun _ => fun
  | [d1, d2, d3, d4, d5] => { results := [.lit (.bool true)], args := [d1, d2, d3, d4, d5] }
  | _ => none }
def fnCutterAddIgnoresTheClocksOriginRow : OpenClaim := { program := "qxb6629007a", sum := "2f4ab90391a453f3982d6024d92371f5b74bf6d7099b65fa39b87b247b8dc3de", func := "example.com/fragline/fragline/zzlaws_window_b1.FnCutterAddIgnoresTheClocksOrigin", spec := "fnCutterAddIgnoresTheClocksOrigin", recurses := true, apart := false }
def FnCutterAddIgnoresTheClocksOriginSaid : Prop := fnCutterAddIgnoresTheClocksOriginRow.holds Try.pinned (OpenSpec.ofChange fnCutterAddIgnoresTheClocksOriginSpec)

/-- ITS FALSE NEIGHBOUR: 'it returns false'. Refute it at one input. -/
def fnCutterAddIgnoresTheClocksOriginWrong : ChangeSpec := { name := "fnCutterAddIgnoresTheClocksOrigin", fn := fun _ => fun
  | [d1, d2, d3, d4, d5] => { results := [.lit (.bool false)], args := [d1, d2, d3, d4, d5] }
  | _ => none }
def FnCutterAddIgnoresTheClocksOriginWrongFalsely : Prop := fnCutterAddIgnoresTheClocksOriginRow.holds Try.pinned (OpenSpec.ofChange fnCutterAddIgnoresTheClocksOriginWrong)

end Rows
end Go.Proofs.Qxb6629007a
