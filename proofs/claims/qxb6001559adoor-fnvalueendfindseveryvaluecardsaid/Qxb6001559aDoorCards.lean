/-
  DERIVED. GIVEN WITH THE SEED: THE CARDS: each row of Qxb6001559aDoorRows.lean that lists a variable, with what it lists TIED to the program's text (the seventh form; the later family's looks); each row that meets fmt, with fmt's text TOLD by the authors' own Lean function (tested against real Go, not proved from fmt's source: count such statements apart). THE CARD IS WHAT COUNTS. Prove the row's statement (the work); the ties are given (Qxb6001559aDoorTie.lean); close each card by the builder's one call (the guide's Derived/Test/ToyasCard.lean, 'card_holds'). Laid BY PROGRAM, IN A SANDBOX (cutbox-door.mjs). By AI agents, Wed Nov 11 2026. No macro, syntax, notation, axiom, sorry.
-/
import Derived.Test.Qxb6001559aDoorRows
import GoSem.ClaimSeven
namespace Go.Proofs.Qxb6001559aDoor
namespace Rows

/-- THE TIED CARD OF 'zzlaws_pkg_httpapi_b1.FnValueEndFindsEveryValue'. -/
def fnValueEndFindsEveryValueCard : Claim7 := { stood := { row := fnValueEndFindsEveryValueRow, standIns := [], harness := (true, "91e3acd7ab0b19f5a796e506fa9ae3f7050f41d4f4e999c6a4782da2d25bf07f"), looks := false }, kinds := [], alts := [], laidByText := true, laidKinds := [.data, .pinned], laidTests := true, laidLooks := .later }
def FnValueEndFindsEveryValueCardSaid : Prop := Claim7.holds Tryd.pinned (.plain (OpenSpec.ofChange fnValueEndFindsEveryValueSpec)) fnValueEndFindsEveryValueCard
end Rows
end Go.Proofs.Qxb6001559aDoor
