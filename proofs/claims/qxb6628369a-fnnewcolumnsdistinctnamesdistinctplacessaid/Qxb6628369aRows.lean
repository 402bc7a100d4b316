/-
  NARROWER THAN 'FOR EVERY INPUT', by the rows' own cells (each row's printed sentence says how): FnNewColumnsReadsEveryNamedText: maps · FnNewColumnsDistinctNamesDistinctPlaces: maps.
  DERIVED. THE GIVEN ROWS OF THIS SEAT. 2 by the template 'for every input the law returns true; each argument reads behind the call as it read before'; 0 by the template 'total and deterministic' (their statements: Qxb6628369aTotals.lean).
  GIVEN WITH THE SEED: the statements are not yours to turn. If you find one false, say at which input.
  Laid BY PROGRAM, IN A SANDBOX (cutbox-rows.mjs): the forced cells as the released guide's own fill.sh prints them over the translation 13a1df4f2095958c… (all of the seat's roots in one cut). By AI agents, Wed Nov 11 2026. No macro, syntax, notation, axiom, sorry.
-/
import Derived.Test.Qxb6628369aChecked
import GoSem.Claim
import GoSem.ClaimJoined
import GoSem.ClaimMapViews
import Derived.JoinedTies
import Derived.KernelRfl
namespace Go.Proofs.Qxb6628369a
/- THE CELL 'sum', in the pinned program and in every row, IS THE sha256 OF THE DUMP (.gsa) THAT Qxb6628369aProg.lean LOADS. Nothing in Lean hashes anything: it is a label: what it is worth is what the hold of that sum in a sandbox is worth. -/
noncomputable def Try.pinned : Pinned := { name := "qxb6628369a", sum := "13a1df4f2095958c62f663b25f6e5285199e71873be8e6e7dbf7209d5d92d0a0", checked := Try.checked }
namespace Rows
def none {H : Type} : Left H := { results := [], args := [] }

/-- 'zzlaws_book_b1.FnNewColumnsReadsEveryNamedText': WHATEVER THE INPUT: true; the input reads as it did. -/
def fnNewColumnsReadsEveryNamedTextSpec : ChangeSpec := { name := "fnNewColumnsReadsEveryNamedText", fn := fun _ => fun
  | [d1, d2] => { results := [.lit (.bool true)], args := [d1, d2] }
  | _ => none }
def fnNewColumnsReadsEveryNamedTextRow : OpenClaim := { program := "qxb6628369a", sum := "13a1df4f2095958c62f663b25f6e5285199e71873be8e6e7dbf7209d5d92d0a0", func := "example.com/tuoguan/tuoguan/zzlaws_book_b1.FnNewColumnsReadsEveryNamedText", spec := "fnNewColumnsReadsEveryNamedText", maps := true, apart := false }
def FnNewColumnsReadsEveryNamedTextSaid : Prop := fnNewColumnsReadsEveryNamedTextRow.holds Try.pinned (OpenSpec.ofChange fnNewColumnsReadsEveryNamedTextSpec)

/-- ITS FALSE NEIGHBOUR: 'it returns false'. Refute it at one input. -/
def fnNewColumnsReadsEveryNamedTextWrong : ChangeSpec := { name := "fnNewColumnsReadsEveryNamedText", fn := fun _ => fun
  | [d1, d2] => { results := [.lit (.bool false)], args := [d1, d2] }
  | _ => none }
def FnNewColumnsReadsEveryNamedTextWrongFalsely : Prop := fnNewColumnsReadsEveryNamedTextRow.holds Try.pinned (OpenSpec.ofChange fnNewColumnsReadsEveryNamedTextWrong)

/-- 'zzlaws_book_b1.FnNewColumnsDistinctNamesDistinctPlaces': WHATEVER THE INPUT: true; the input reads as it did. -/
def fnNewColumnsDistinctNamesDistinctPlacesSpec : ChangeSpec := { name := "fnNewColumnsDistinctNamesDistinctPlaces", fn := fun _ => fun
  | [d1, d2] => { results := [.lit (.bool true)], args := [d1, d2] }
  | _ => none }
def fnNewColumnsDistinctNamesDistinctPlacesRow : OpenClaim := { program := "qxb6628369a", sum := "13a1df4f2095958c62f663b25f6e5285199e71873be8e6e7dbf7209d5d92d0a0", func := "example.com/tuoguan/tuoguan/zzlaws_book_b1.FnNewColumnsDistinctNamesDistinctPlaces", spec := "fnNewColumnsDistinctNamesDistinctPlaces", maps := true, apart := false }
def FnNewColumnsDistinctNamesDistinctPlacesSaid : Prop := fnNewColumnsDistinctNamesDistinctPlacesRow.holds Try.pinned (OpenSpec.ofChange fnNewColumnsDistinctNamesDistinctPlacesSpec)

/-- ITS FALSE NEIGHBOUR: 'it returns false'. Refute it at one input. -/
def fnNewColumnsDistinctNamesDistinctPlacesWrong : ChangeSpec := { name := "fnNewColumnsDistinctNamesDistinctPlaces", fn := fun _ => fun
  | [d1, d2] => { results := [.lit (.bool false)], args := [d1, d2] }
  | _ => none }
def FnNewColumnsDistinctNamesDistinctPlacesWrongFalsely : Prop := fnNewColumnsDistinctNamesDistinctPlacesRow.holds Try.pinned (OpenSpec.ofChange fnNewColumnsDistinctNamesDistinctPlacesWrong)

end Rows
end Go.Proofs.Qxb6628369a
