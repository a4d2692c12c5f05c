/-
  DERIVED. GIVEN WITH THE SEED: THE CARDS: each row of Qxb6600738aDoorRows.lean that lists a variable, with what it lists TIED to the program's text (the seventh form; the later family's looks); each row that meets fmt, with fmt's text TOLD by the authors' own Lean function (tested against real Go, not proved from fmt's source: count such statements apart). THE CARD IS WHAT COUNTS. Prove the row's statement (the work); the ties are given (Qxb6600738aDoorTie.lean); close each card by the builder's one call (the guide's Derived/Test/ToyasCard.lean, 'card_holds'). Laid BY PROGRAM, IN A SANDBOX (cutbox-door.mjs). By AI agents, Wed Nov 11 2026. No macro, syntax, notation, axiom, sorry.
-/
import Derived.Test.Qxb6600738aDoorRows
import GoSem.ClaimSeven
namespace Go.Proofs.Qxb6600738aDoor
namespace Rows

/-- THE TIED CARD OF 'zzlaws_internal_document_b1.FnKeysAddBuildsExactly'. -/
def fnKeysAddBuildsExactlyCard : Claim7 := { stood := { row := fnKeysAddBuildsExactlyRow, standIns := [], harness := (true, "9900680929749390d62a95ca1027e38ce04e0fc0b579dbfea86dec9a7b76d8a2"), looks := false }, kinds := [], alts := [], laidByText := true, laidKinds := [.data, .pinned, .pinned, .pinned, .pinned, .pinned, .pinned], laidTests := true, laidLooks := .later }
def FnKeysAddBuildsExactlyCardSaid : Prop := Claim7.holds Tryd.pinned (.plain (OpenSpec.ofChange fnKeysAddBuildsExactlySpec)) fnKeysAddBuildsExactlyCard

/-- THE TIED CARD OF 'zzlaws_internal_document_b1.FnKeysAddLeavesItsSourceAlone'. -/
def fnKeysAddLeavesItsSourceAloneCard : Claim7 := { stood := { row := fnKeysAddLeavesItsSourceAloneRow, standIns := [], harness := (true, "9900680929749390d62a95ca1027e38ce04e0fc0b579dbfea86dec9a7b76d8a2"), looks := false }, kinds := [], alts := [], laidByText := true, laidKinds := [.data, .pinned, .pinned, .pinned, .pinned, .pinned, .pinned], laidTests := true, laidLooks := .later }
def FnKeysAddLeavesItsSourceAloneCardSaid : Prop := Claim7.holds Tryd.pinned (.plain (OpenSpec.ofChange fnKeysAddLeavesItsSourceAloneSpec)) fnKeysAddLeavesItsSourceAloneCard

/-- THE TIED CARD OF 'zzlaws_internal_document_b1.FnKeysWithExactly'. -/
def fnKeysWithExactlyCard : Claim7 := { stood := { row := fnKeysWithExactlyRow, standIns := [], harness := (true, "9900680929749390d62a95ca1027e38ce04e0fc0b579dbfea86dec9a7b76d8a2"), looks := false }, kinds := [], alts := [], laidByText := true, laidKinds := [.data, .pinned, .pinned, .pinned, .pinned, .pinned, .pinned], laidTests := true, laidLooks := .later }
def FnKeysWithExactlyCardSaid : Prop := Claim7.holds Tryd.pinned (.plain (OpenSpec.ofChange fnKeysWithExactlySpec)) fnKeysWithExactlyCard

/-- THE TIED CARD OF 'zzlaws_internal_document_b1.FnKeysWithAssociative'. -/
def fnKeysWithAssociativeCard : Claim7 := { stood := { row := fnKeysWithAssociativeRow, standIns := [], harness := (true, "9900680929749390d62a95ca1027e38ce04e0fc0b579dbfea86dec9a7b76d8a2"), looks := false }, kinds := [], alts := [], laidByText := true, laidKinds := [.data, .pinned, .pinned, .pinned, .pinned, .pinned, .pinned], laidTests := true, laidLooks := .later }
def FnKeysWithAssociativeCardSaid : Prop := Claim7.holds Tryd.pinned (.plain (OpenSpec.ofChange fnKeysWithAssociativeSpec)) fnKeysWithAssociativeCard

/-- THE TIED CARD OF 'zzlaws_internal_document_b1.FnPathStringConcatenates'. -/
def fnPathStringConcatenatesCard : Claim7 := { stood := { row := fnPathStringConcatenatesRow, standIns := [], harness := (true, "9900680929749390d62a95ca1027e38ce04e0fc0b579dbfea86dec9a7b76d8a2"), looks := false }, kinds := [], alts := [], laidByText := true, laidKinds := [.data, .data, .data, .data, .pinned, .pinned, .pinned, .pinned, .pinned, .pinned], laidTests := true, laidLooks := .later }
def FnPathStringConcatenatesCardSaid : Prop := Claim7.holds Tryd.pinned (.plain (OpenSpec.ofChange fnPathStringConcatenatesSpec)) fnPathStringConcatenatesCard

/-- THE TIED CARD OF 'zzlaws_internal_document_b1.FnPathStringInjective'. -/
def fnPathStringInjectiveCard : Claim7 := { stood := { row := fnPathStringInjectiveRow, standIns := [], harness := (true, "9900680929749390d62a95ca1027e38ce04e0fc0b579dbfea86dec9a7b76d8a2"), looks := false }, kinds := [], alts := [], laidByText := true, laidKinds := [.data, .data, .data, .data, .pinned, .pinned, .pinned, .pinned, .pinned, .pinned], laidTests := true, laidLooks := .later }
def FnPathStringInjectiveCardSaid : Prop := Claim7.holds Tryd.pinned (.plain (OpenSpec.ofChange fnPathStringInjectiveSpec)) fnPathStringInjectiveCard
end Rows
end Go.Proofs.Qxb6600738aDoor
