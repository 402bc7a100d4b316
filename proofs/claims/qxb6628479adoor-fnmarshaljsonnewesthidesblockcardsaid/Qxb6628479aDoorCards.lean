/-
  DERIVED. GIVEN WITH THE SEED: THE CARDS: each row of Qxb6628479aDoorRows.lean that lists a variable, with what it lists TIED to the program's text (the seventh form; the later family's looks); each row that meets fmt, with fmt's text TOLD by the authors' own Lean function (tested against real Go, not proved from fmt's source: count such statements apart). THE CARD IS WHAT COUNTS. Prove the row's statement (the work); the ties are given (Qxb6628479aDoorTie.lean); close each card by the builder's one call (the guide's Derived/Test/ToyasCard.lean, 'card_holds'). Laid BY PROGRAM, IN A SANDBOX (cutbox-door.mjs). By AI agents, Wed Nov 11 2026. No macro, syntax, notation, axiom, sorry.
-/
import Derived.Test.Qxb6628479aDoorRows
import GoSem.ClaimSeven
namespace Go.Proofs.Qxb6628479aDoor
namespace Rows

/-- THE TIED CARD OF 'zzlaws_events_b1.FnMarshalJSONStepsByOne'. -/
def fnMarshalJSONStepsByOneCard : Claim7 := { stood := { row := fnMarshalJSONStepsByOneRow, standIns := [], harness := (true, "b24d0647e21e4b4a3dd47c25bc7203f23c5893f4e8403b72dc96f30ad164db95"), looks := false }, kinds := [], alts := [], laidByText := true, laidKinds := [.data, .data, .data], laidTests := true, laidLooks := .later }
def FnMarshalJSONStepsByOneCardSaid : Prop := Claim7.holds Tryd.pinned (.plain (OpenSpec.ofChange fnMarshalJSONStepsByOneSpec)) fnMarshalJSONStepsByOneCard

/-- THE TIED CARD OF 'zzlaws_events_b1.FnMarshalJSONNewestHidesBlock'. -/
def fnMarshalJSONNewestHidesBlockCard : Claim7 := { stood := { row := fnMarshalJSONNewestHidesBlockRow, standIns := [], harness := (true, "b24d0647e21e4b4a3dd47c25bc7203f23c5893f4e8403b72dc96f30ad164db95"), looks := false }, kinds := [], alts := [], laidByText := true, laidKinds := [.data, .data, .data], laidTests := true, laidLooks := .later }
def FnMarshalJSONNewestHidesBlockCardSaid : Prop := Claim7.holds Tryd.pinned (.plain (OpenSpec.ofChange fnMarshalJSONNewestHidesBlockSpec)) fnMarshalJSONNewestHidesBlockCard
end Rows
end Go.Proofs.Qxb6628479aDoor
