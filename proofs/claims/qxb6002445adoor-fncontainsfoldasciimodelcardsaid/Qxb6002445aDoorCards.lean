/-
  DERIVED. GIVEN WITH THE SEED: THE CARDS: each row of Qxb6002445aDoorRows.lean that lists a variable, with what it lists TIED to the program's text (the seventh form; the later family's looks); each row that meets fmt, with fmt's text TOLD by the authors' own Lean function (tested against real Go, not proved from fmt's source: count such statements apart). THE CARD IS WHAT COUNTS. Prove the row's statement (the work); the ties are given (Qxb6002445aDoorTie.lean); close each card by the builder's one call (the guide's Derived/Test/ToyasCard.lean, 'card_holds'). Laid BY PROGRAM, IN A SANDBOX (cutbox-door.mjs). By AI agents, Wed Nov 11 2026. No macro, syntax, notation, axiom, sorry.
-/
import Derived.Test.Qxb6002445aDoorRows
import GoSem.ClaimSeven
namespace Go.Proofs.Qxb6002445aDoor
namespace Rows

/-- THE TIED CARD OF 'zzlaws_internal_markdown_g2.FnContainsFoldASCIIModel'. -/
def fnContainsFoldASCIIModelCard : Claim7 := { stood := { row := fnContainsFoldASCIIModelRow, standIns := [], harness := (true, "4f2494be35b83111d2aa00bdacdd375d5d842667c3378625552e32bd886d4f90"), looks := false }, kinds := [], alts := [], laidByText := true, laidKinds := [.data, .data, .data, .pinned, .pinned], laidTests := true, laidLooks := .later }
def FnContainsFoldASCIIModelCardSaid : Prop := Claim7.holds Tryd.pinned (.plain (OpenSpec.ofChange fnContainsFoldASCIIModelSpec)) fnContainsFoldASCIIModelCard

/-- THE TIED CARD OF 'zzlaws_internal_markdown_g2.FnFenceClosedByItsOwnMarks'. -/
def fnFenceClosedByItsOwnMarksCard : Claim7 := { stood := { row := fnFenceClosedByItsOwnMarksRow, standIns := [], harness := (true, "4f2494be35b83111d2aa00bdacdd375d5d842667c3378625552e32bd886d4f90"), looks := false }, kinds := [], alts := [], laidByText := true, laidKinds := [.data, .pinned], laidTests := true, laidLooks := .later }
def FnFenceClosedByItsOwnMarksCardSaid : Prop := Claim7.holds Tryd.pinned (.plain (OpenSpec.ofChange fnFenceClosedByItsOwnMarksSpec)) fnFenceClosedByItsOwnMarksCard
end Rows
end Go.Proofs.Qxb6002445aDoor
