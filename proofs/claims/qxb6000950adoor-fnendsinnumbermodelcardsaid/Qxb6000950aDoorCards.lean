/-
  DERIVED. GIVEN WITH THE SEED: THE CARDS: each row of Qxb6000950aDoorRows.lean that lists a variable, with what it lists TIED to the program's text (the seventh form; the later family's looks); each row that meets fmt, with fmt's text TOLD by the authors' own Lean function (tested against real Go, not proved from fmt's source: count such statements apart). THE CARD IS WHAT COUNTS. Prove the row's statement (the work); the ties are given (Qxb6000950aDoorTie.lean); close each card by the builder's one call (the guide's Derived/Test/ToyasCard.lean, 'card_holds'). Laid BY PROGRAM, IN A SANDBOX (cutbox-door.mjs). By AI agents, Wed Nov 11 2026. No macro, syntax, notation, axiom, sorry.
-/
import Derived.Test.Qxb6000950aDoorRows
import GoSem.ClaimSeven
namespace Go.Proofs.Qxb6000950aDoor
namespace Rows

/-- THE TIED CARD OF 'zzlaws_config_b1.FnHostLabelsJoinRoundTrip'. -/
def fnHostLabelsJoinRoundTripCard : Claim7 := { stood := { row := fnHostLabelsJoinRoundTripRow, standIns := [], harness := (true, "74d49bb43ee4eae91301ae26da9b4f36517483313407897e32ba7de772d5111e"), looks := false }, kinds := [], alts := [], laidByText := true, laidKinds := [.data, .pinned], laidTests := true, laidLooks := .later }
def FnHostLabelsJoinRoundTripCardSaid : Prop := Claim7.holds Tryd.pinned (.plain (OpenSpec.ofChange fnHostLabelsJoinRoundTripSpec)) fnHostLabelsJoinRoundTripCard

/-- THE TIED CARD OF 'zzlaws_config_b1.FnHostLabelsTrailingDotIgnored'. -/
def fnHostLabelsTrailingDotIgnoredCard : Claim7 := { stood := { row := fnHostLabelsTrailingDotIgnoredRow, standIns := [], harness := (true, "74d49bb43ee4eae91301ae26da9b4f36517483313407897e32ba7de772d5111e"), looks := false }, kinds := [], alts := [], laidByText := true, laidKinds := [.data, .pinned], laidTests := true, laidLooks := .later }
def FnHostLabelsTrailingDotIgnoredCardSaid : Prop := Claim7.holds Tryd.pinned (.plain (OpenSpec.ofChange fnHostLabelsTrailingDotIgnoredSpec)) fnHostLabelsTrailingDotIgnoredCard

/-- THE TIED CARD OF 'zzlaws_config_b1.FnEndsInNumberModel'. -/
def fnEndsInNumberModelCard : Claim7 := { stood := { row := fnEndsInNumberModelRow, standIns := [], harness := (true, "74d49bb43ee4eae91301ae26da9b4f36517483313407897e32ba7de772d5111e"), looks := false }, kinds := [], alts := [], laidByText := true, laidKinds := [.data, .pinned], laidTests := true, laidLooks := .later }
def FnEndsInNumberModelCardSaid : Prop := Claim7.holds Tryd.pinned (.plain (OpenSpec.ofChange fnEndsInNumberModelSpec)) fnEndsInNumberModelCard

/-- THE TIED CARD OF 'zzlaws_config_b1.FnEndsInNumberOnlyLastLabel'. -/
def fnEndsInNumberOnlyLastLabelCard : Claim7 := { stood := { row := fnEndsInNumberOnlyLastLabelRow, standIns := [], harness := (true, "74d49bb43ee4eae91301ae26da9b4f36517483313407897e32ba7de772d5111e"), looks := false }, kinds := [], alts := [], laidByText := true, laidKinds := [.data, .pinned], laidTests := true, laidLooks := .later }
def FnEndsInNumberOnlyLastLabelCardSaid : Prop := Claim7.holds Tryd.pinned (.plain (OpenSpec.ofChange fnEndsInNumberOnlyLastLabelSpec)) fnEndsInNumberOnlyLastLabelCard

/-- THE TIED CARD OF 'zzlaws_config_b1.FnEndsInNumberTrailingDotIgnored'. -/
def fnEndsInNumberTrailingDotIgnoredCard : Claim7 := { stood := { row := fnEndsInNumberTrailingDotIgnoredRow, standIns := [], harness := (true, "74d49bb43ee4eae91301ae26da9b4f36517483313407897e32ba7de772d5111e"), looks := false }, kinds := [], alts := [], laidByText := true, laidKinds := [.data, .pinned], laidTests := true, laidLooks := .later }
def FnEndsInNumberTrailingDotIgnoredCardSaid : Prop := Claim7.holds Tryd.pinned (.plain (OpenSpec.ofChange fnEndsInNumberTrailingDotIgnoredSpec)) fnEndsInNumberTrailingDotIgnoredCard
end Rows
end Go.Proofs.Qxb6000950aDoor
