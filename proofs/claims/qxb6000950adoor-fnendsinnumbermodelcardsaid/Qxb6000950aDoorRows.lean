/-
  NARROWER THAN 'FOR EVERY INPUT', by the rows' own cells (each row's printed sentence says how): FnHostLabelsJoinRoundTrip: laid · FnHostLabelsTrailingDotIgnored: laid · FnEndsInNumberModel: laid · FnEndsInNumberOnlyLastLabel: laid · FnEndsInNumberTrailingDotIgnored: laid.
  DERIVED. THE GIVEN ROWS OF THIS SEAT. 5 by the template 'for every input the law returns true; each argument reads behind the call as it read before'; 0 by the template 'total and deterministic' (their statements: Qxb6000950aDoorTotals.lean).
  GIVEN WITH THE SEED: the statements are not yours to turn. If you find one false, say at which input.
  Laid BY PROGRAM, IN A SANDBOX (cutbox-rows.mjs): the forced cells as the released guide's own fill.sh prints them over the translation 605bc6fd0b12094d… (all of the seat's roots in one cut). By AI agents, Wed Nov 11 2026. No macro, syntax, notation, axiom, sorry.
-/
import Derived.Test.Qxb6000950aDoorChecked
import GoSem.PinnedTables
import GoSem.Claim
import GoSem.ClaimJoined
import GoSem.ClaimMapViews
import Derived.JoinedTies
import Derived.KernelRfl
namespace Go.Proofs.Qxb6000950aDoor
/- THE CELL 'sum', in the pinned program and in every row, IS THE sha256 OF THE DUMP (.gsa) THAT Qxb6000950aDoorProg.lean LOADS. Nothing in Lean hashes anything: it is a label: what it is worth is what the hold of that sum in a sandbox is worth. -/
noncomputable def Tryd.pinned : Pinned := { name := "qxb6000950adoor", sum := "605bc6fd0b12094d469908b8b175c4b6c23f9e07633a719e4f70efb5e840e760", checked := Tryd.checked }
namespace Rows
def none {H : Type} : Left H := { results := [], args := [] }

/- WHAT THE LISTED PACKAGE-LEVEL VARIABLES READ AS WHEN THE CALL BEGINS. Each datum BY PROGRAM (the guide's laid-datum.mjs) off the statement by which the dump's own 'gosem.cut.vars' lays the variable. In a bare row this is a premise. The card (Qxb6000950aDoorCards.lean) ties it to the program's text. -/
def laid_unicode_utf8_acceptRanges {H : Type} : DataW H := .agg [.agg [.lit (.int .u8 128), .lit (.int .u8 191)], .agg [.lit (.int .u8 160), .lit (.int .u8 191)], .agg [.lit (.int .u8 128), .lit (.int .u8 159)], .agg [.lit (.int .u8 144), .lit (.int .u8 191)], .agg [.lit (.int .u8 128), .lit (.int .u8 143)], .agg [.lit (.int .u8 0), .lit (.int .u8 0)], .agg [.lit (.int .u8 0), .lit (.int .u8 0)], .agg [.lit (.int .u8 0), .lit (.int .u8 0)], .agg [.lit (.int .u8 0), .lit (.int .u8 0)], .agg [.lit (.int .u8 0), .lit (.int .u8 0)], .agg [.lit (.int .u8 0), .lit (.int .u8 0)], .agg [.lit (.int .u8 0), .lit (.int .u8 0)], .agg [.lit (.int .u8 0), .lit (.int .u8 0)], .agg [.lit (.int .u8 0), .lit (.int .u8 0)], .agg [.lit (.int .u8 0), .lit (.int .u8 0)], .agg [.lit (.int .u8 0), .lit (.int .u8 0)]]
/-- One of Go's own tables, pinned by name: the form's constant. -/
def laid_unicode_utf8_first : DataW Unit := Go.Pinned.utf8First

/-- 'zzlaws_config_b1.FnHostLabelsJoinRoundTrip': WHATEVER THE INPUT: true; the input reads as it did. -/
def fnHostLabelsJoinRoundTripSpec : ChangeSpec := { name := "fnHostLabelsJoinRoundTrip", fn := fun _ => fun
  | [d] => { results := [.lit (.bool true)], args := [d] }
  | _ => none }
def fnHostLabelsJoinRoundTripRow : OpenClaim := { program := "qxb6000950adoor", sum := "605bc6fd0b12094d469908b8b175c4b6c23f9e07633a719e4f70efb5e840e760", func := "example.com/latchkey/latchkey/zzlaws_config_b1.FnHostLabelsJoinRoundTrip", spec := "fnHostLabelsJoinRoundTrip", inPlace := ["internal/bytealg.CountString", "internal/bytealg.IndexByteString", "internal/bytealg.IndexString"], named := ["unicode/utf8.first", "unicode/utf8.acceptRanges", "internal/bytealg.MaxLen"], apart := false, laid := [("unicode/utf8.acceptRanges", laid_unicode_utf8_acceptRanges), ("unicode/utf8.first", laid_unicode_utf8_first)] }
def FnHostLabelsJoinRoundTripSaid : Prop := fnHostLabelsJoinRoundTripRow.holds Tryd.pinned (OpenSpec.ofChange fnHostLabelsJoinRoundTripSpec)

/-- ITS FALSE NEIGHBOUR: 'it returns false'. Refute it at one input. -/
def fnHostLabelsJoinRoundTripWrong : ChangeSpec := { name := "fnHostLabelsJoinRoundTrip", fn := fun _ => fun
  | [d] => { results := [.lit (.bool false)], args := [d] }
  | _ => none }
def FnHostLabelsJoinRoundTripWrongFalsely : Prop := fnHostLabelsJoinRoundTripRow.holds Tryd.pinned (OpenSpec.ofChange fnHostLabelsJoinRoundTripWrong)

/-- 'zzlaws_config_b1.FnHostLabelsTrailingDotIgnored': WHATEVER THE INPUT: true; the input reads as it did. -/
def fnHostLabelsTrailingDotIgnoredSpec : ChangeSpec := { name := "fnHostLabelsTrailingDotIgnored", fn := fun _ => fun
  | [d] => { results := [.lit (.bool true)], args := [d] }
  | _ => none }
def fnHostLabelsTrailingDotIgnoredRow : OpenClaim := { program := "qxb6000950adoor", sum := "605bc6fd0b12094d469908b8b175c4b6c23f9e07633a719e4f70efb5e840e760", func := "example.com/latchkey/latchkey/zzlaws_config_b1.FnHostLabelsTrailingDotIgnored", spec := "fnHostLabelsTrailingDotIgnored", inPlace := ["internal/bytealg.CountString", "internal/bytealg.IndexByteString", "internal/bytealg.IndexString"], named := ["unicode/utf8.first", "unicode/utf8.acceptRanges", "internal/bytealg.MaxLen"], apart := false, laid := [("unicode/utf8.acceptRanges", laid_unicode_utf8_acceptRanges), ("unicode/utf8.first", laid_unicode_utf8_first)] }
def FnHostLabelsTrailingDotIgnoredSaid : Prop := fnHostLabelsTrailingDotIgnoredRow.holds Tryd.pinned (OpenSpec.ofChange fnHostLabelsTrailingDotIgnoredSpec)

/-- ITS FALSE NEIGHBOUR: 'it returns false'. Refute it at one input. -/
def fnHostLabelsTrailingDotIgnoredWrong : ChangeSpec := { name := "fnHostLabelsTrailingDotIgnored", fn := fun _ => fun
  | [d] => { results := [.lit (.bool false)], args := [d] }
  | _ => none }
def FnHostLabelsTrailingDotIgnoredWrongFalsely : Prop := fnHostLabelsTrailingDotIgnoredRow.holds Tryd.pinned (OpenSpec.ofChange fnHostLabelsTrailingDotIgnoredWrong)

/-- 'zzlaws_config_b1.FnEndsInNumberModel': WHATEVER THE INPUT: true; the input reads as it did. -/
def fnEndsInNumberModelSpec : ChangeSpec := { name := "fnEndsInNumberModel", fn := fun _ => fun
  | [d] => { results := [.lit (.bool true)], args := [d] }
  | _ => none }
def fnEndsInNumberModelRow : OpenClaim := { program := "qxb6000950adoor", sum := "605bc6fd0b12094d469908b8b175c4b6c23f9e07633a719e4f70efb5e840e760", func := "example.com/latchkey/latchkey/zzlaws_config_b1.FnEndsInNumberModel", spec := "fnEndsInNumberModel", inPlace := ["internal/bytealg.CountString", "internal/bytealg.IndexByteString", "internal/bytealg.IndexString"], named := ["unicode/utf8.first", "unicode/utf8.acceptRanges", "internal/bytealg.MaxLen"], apart := false, laid := [("unicode/utf8.acceptRanges", laid_unicode_utf8_acceptRanges), ("unicode/utf8.first", laid_unicode_utf8_first)] }
def FnEndsInNumberModelSaid : Prop := fnEndsInNumberModelRow.holds Tryd.pinned (OpenSpec.ofChange fnEndsInNumberModelSpec)

/-- ITS FALSE NEIGHBOUR: 'it returns false'. Refute it at one input. -/
def fnEndsInNumberModelWrong : ChangeSpec := { name := "fnEndsInNumberModel", fn := fun _ => fun
  | [d] => { results := [.lit (.bool false)], args := [d] }
  | _ => none }
def FnEndsInNumberModelWrongFalsely : Prop := fnEndsInNumberModelRow.holds Tryd.pinned (OpenSpec.ofChange fnEndsInNumberModelWrong)

/-- 'zzlaws_config_b1.FnEndsInNumberOnlyLastLabel': WHATEVER THE INPUT: true; the input reads as it did. -/
def fnEndsInNumberOnlyLastLabelSpec : ChangeSpec := { name := "fnEndsInNumberOnlyLastLabel", fn := fun _ => fun
  | [d1, d2] => { results := [.lit (.bool true)], args := [d1, d2] }
  | _ => none }
def fnEndsInNumberOnlyLastLabelRow : OpenClaim := { program := "qxb6000950adoor", sum := "605bc6fd0b12094d469908b8b175c4b6c23f9e07633a719e4f70efb5e840e760", func := "example.com/latchkey/latchkey/zzlaws_config_b1.FnEndsInNumberOnlyLastLabel", spec := "fnEndsInNumberOnlyLastLabel", inPlace := ["internal/bytealg.CountString", "internal/bytealg.IndexByteString", "internal/bytealg.IndexString"], named := ["unicode/utf8.first", "unicode/utf8.acceptRanges", "internal/bytealg.MaxLen"], apart := false, laid := [("unicode/utf8.acceptRanges", laid_unicode_utf8_acceptRanges), ("unicode/utf8.first", laid_unicode_utf8_first)] }
def FnEndsInNumberOnlyLastLabelSaid : Prop := fnEndsInNumberOnlyLastLabelRow.holds Tryd.pinned (OpenSpec.ofChange fnEndsInNumberOnlyLastLabelSpec)

/-- ITS FALSE NEIGHBOUR: 'it returns false'. Refute it at one input. -/
def fnEndsInNumberOnlyLastLabelWrong : ChangeSpec := { name := "fnEndsInNumberOnlyLastLabel", fn := fun _ => fun
  | [d1, d2] => { results := [.lit (.bool false)], args := [d1, d2] }
  | _ => none }
def FnEndsInNumberOnlyLastLabelWrongFalsely : Prop := fnEndsInNumberOnlyLastLabelRow.holds Tryd.pinned (OpenSpec.ofChange fnEndsInNumberOnlyLastLabelWrong)

/-- 'zzlaws_config_b1.FnEndsInNumberTrailingDotIgnored': WHATEVER THE INPUT: true; the input reads as it did. -/
def fnEndsInNumberTrailingDotIgnoredSpec : ChangeSpec := { name := "fnEndsInNumberTrailingDotIgnored", fn := fun _ => fun
  | [d] => { results := [.lit (.bool true)], args := [d] }
  | _ => none }
def fnEndsInNumberTrailingDotIgnoredRow : OpenClaim := { program := "qxb6000950adoor", sum := "605bc6fd0b12094d469908b8b175c4b6c23f9e07633a719e4f70efb5e840e760", func := "example.com/latchkey/latchkey/zzlaws_config_b1.FnEndsInNumberTrailingDotIgnored", spec := "fnEndsInNumberTrailingDotIgnored", inPlace := ["internal/bytealg.CountString", "internal/bytealg.IndexByteString", "internal/bytealg.IndexString"], named := ["unicode/utf8.first", "unicode/utf8.acceptRanges", "internal/bytealg.MaxLen"], apart := false, laid := [("unicode/utf8.acceptRanges", laid_unicode_utf8_acceptRanges), ("unicode/utf8.first", laid_unicode_utf8_first)] }
def FnEndsInNumberTrailingDotIgnoredSaid : Prop := fnEndsInNumberTrailingDotIgnoredRow.holds Tryd.pinned (OpenSpec.ofChange fnEndsInNumberTrailingDotIgnoredSpec)

/-- ITS FALSE NEIGHBOUR: 'it returns false'. Refute it at one input. -/
def fnEndsInNumberTrailingDotIgnoredWrong : ChangeSpec := { name := "fnEndsInNumberTrailingDotIgnored", fn := fun _ => fun
  | [d] => { results := [.lit (.bool false)], args := [d] }
  | _ => none }
def FnEndsInNumberTrailingDotIgnoredWrongFalsely : Prop := fnEndsInNumberTrailingDotIgnoredRow.holds Tryd.pinned (OpenSpec.ofChange fnEndsInNumberTrailingDotIgnoredWrong)

end Rows
end Go.Proofs.Qxb6000950aDoor
