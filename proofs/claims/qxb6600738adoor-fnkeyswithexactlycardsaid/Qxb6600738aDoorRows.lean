/-
  NARROWER THAN 'FOR EVERY INPUT', by the rows' own cells (each row's printed sentence says how): FnKeysAddBuildsExactly: laid · FnKeysAddLeavesItsSourceAlone: laid · FnKeysWithExactly: laid · FnKeysWithAssociative: laid · FnPathStringConcatenates: laid · FnPathStringInjective: laid.
  DERIVED. THE GIVEN ROWS OF THIS SEAT. 6 by the template 'for every input the law returns true; each argument reads behind the call as it read before'; 0 by the template 'total and deterministic' (their statements: Qxb6600738aDoorTotals.lean).
  GIVEN WITH THE SEED: the statements are not yours to turn. If you find one false, say at which input.
  Laid BY PROGRAM, IN A SANDBOX (cutbox-rows.mjs): the forced cells as the released guide's own fill.sh prints them over the translation 14d863f19e65610e… (all of the seat's roots in one cut). By AI agents, Wed Nov 11 2026. No macro, syntax, notation, axiom, sorry.
-/
import Derived.Test.Qxb6600738aDoorChecked
import GoSem.PinnedTables
import GoSem.Claim
import GoSem.ClaimJoined
import GoSem.ClaimMapViews
import Derived.JoinedTies
import Derived.KernelRfl
namespace Go.Proofs.Qxb6600738aDoor
/- THE CELL 'sum', in the pinned program and in every row, IS THE sha256 OF THE DUMP (.gsa) THAT Qxb6600738aDoorProg.lean LOADS. Nothing in Lean hashes anything: it is a label: what it is worth is what the hold of that sum in a sandbox is worth. -/
noncomputable def Tryd.pinned : Pinned := { name := "qxb6600738adoor", sum := "14d863f19e65610e1fd16d59b93f32841d41d3cb210c8902df0ae023cfe454eb", checked := Tryd.checked }
namespace Rows
def none {H : Type} : Left H := { results := [], args := [] }

/- WHAT THE LISTED PACKAGE-LEVEL VARIABLES READ AS WHEN THE CALL BEGINS. Each datum BY PROGRAM (the guide's laid-datum.mjs) off the statement by which the dump's own 'gosem.cut.vars' lays the variable. In a bare row this is a premise. The card (Qxb6600738aDoorCards.lean) ties it to the program's text. -/
def laid_unicode_utf8_acceptRanges {H : Type} : DataW H := .agg [.agg [.lit (.int .u8 128), .lit (.int .u8 191)], .agg [.lit (.int .u8 160), .lit (.int .u8 191)], .agg [.lit (.int .u8 128), .lit (.int .u8 159)], .agg [.lit (.int .u8 144), .lit (.int .u8 191)], .agg [.lit (.int .u8 128), .lit (.int .u8 143)], .agg [.lit (.int .u8 0), .lit (.int .u8 0)], .agg [.lit (.int .u8 0), .lit (.int .u8 0)], .agg [.lit (.int .u8 0), .lit (.int .u8 0)], .agg [.lit (.int .u8 0), .lit (.int .u8 0)], .agg [.lit (.int .u8 0), .lit (.int .u8 0)], .agg [.lit (.int .u8 0), .lit (.int .u8 0)], .agg [.lit (.int .u8 0), .lit (.int .u8 0)], .agg [.lit (.int .u8 0), .lit (.int .u8 0)], .agg [.lit (.int .u8 0), .lit (.int .u8 0)], .agg [.lit (.int .u8 0), .lit (.int .u8 0)], .agg [.lit (.int .u8 0), .lit (.int .u8 0)]]
/-- One of Go's own tables, pinned by name: the form's constant. -/
def laid_strconv_isGraphic : DataW Unit := Go.Pinned.isGraphic
/-- One of Go's own tables, pinned by name: the form's constant. -/
def laid_strconv_isNotPrint16 : DataW Unit := Go.Pinned.isNotPrint16
/-- One of Go's own tables, pinned by name: the form's constant. -/
def laid_strconv_isNotPrint32 : DataW Unit := Go.Pinned.isNotPrint32
/-- One of Go's own tables, pinned by name: the form's constant. -/
def laid_strconv_isPrint16 : DataW Unit := Go.Pinned.isPrint16
/-- One of Go's own tables, pinned by name: the form's constant. -/
def laid_strconv_isPrint32 : DataW Unit := Go.Pinned.isPrint32
/-- One of Go's own tables, pinned by name: the form's constant. -/
def laid_unicode_utf8_first : DataW Unit := Go.Pinned.utf8First
def laid_math_bits_deBruijn32tab {H : Type} : DataW H := .agg [.lit (.int .u8 0), .lit (.int .u8 1), .lit (.int .u8 28), .lit (.int .u8 2), .lit (.int .u8 29), .lit (.int .u8 14), .lit (.int .u8 24), .lit (.int .u8 3), .lit (.int .u8 30), .lit (.int .u8 22), .lit (.int .u8 20), .lit (.int .u8 15), .lit (.int .u8 25), .lit (.int .u8 17), .lit (.int .u8 4), .lit (.int .u8 8), .lit (.int .u8 31), .lit (.int .u8 27), .lit (.int .u8 13), .lit (.int .u8 23), .lit (.int .u8 21), .lit (.int .u8 19), .lit (.int .u8 16), .lit (.int .u8 7), .lit (.int .u8 26), .lit (.int .u8 12), .lit (.int .u8 18), .lit (.int .u8 6), .lit (.int .u8 11), .lit (.int .u8 5), .lit (.int .u8 10), .lit (.int .u8 9)]
def laid_math_bits_deBruijn64tab {H : Type} : DataW H := .agg [.lit (.int .u8 0), .lit (.int .u8 1), .lit (.int .u8 56), .lit (.int .u8 2), .lit (.int .u8 57), .lit (.int .u8 49), .lit (.int .u8 28), .lit (.int .u8 3), .lit (.int .u8 61), .lit (.int .u8 58), .lit (.int .u8 42), .lit (.int .u8 50), .lit (.int .u8 38), .lit (.int .u8 29), .lit (.int .u8 17), .lit (.int .u8 4), .lit (.int .u8 62), .lit (.int .u8 47), .lit (.int .u8 59), .lit (.int .u8 36), .lit (.int .u8 45), .lit (.int .u8 43), .lit (.int .u8 51), .lit (.int .u8 22), .lit (.int .u8 53), .lit (.int .u8 39), .lit (.int .u8 33), .lit (.int .u8 30), .lit (.int .u8 24), .lit (.int .u8 18), .lit (.int .u8 12), .lit (.int .u8 5), .lit (.int .u8 63), .lit (.int .u8 55), .lit (.int .u8 48), .lit (.int .u8 27), .lit (.int .u8 60), .lit (.int .u8 41), .lit (.int .u8 37), .lit (.int .u8 16), .lit (.int .u8 46), .lit (.int .u8 35), .lit (.int .u8 44), .lit (.int .u8 21), .lit (.int .u8 52), .lit (.int .u8 32), .lit (.int .u8 23), .lit (.int .u8 11), .lit (.int .u8 54), .lit (.int .u8 26), .lit (.int .u8 40), .lit (.int .u8 15), .lit (.int .u8 34), .lit (.int .u8 20), .lit (.int .u8 31), .lit (.int .u8 10), .lit (.int .u8 25), .lit (.int .u8 14), .lit (.int .u8 19), .lit (.int .u8 9), .lit (.int .u8 13), .lit (.int .u8 8), .lit (.int .u8 7), .lit (.int .u8 6)]
def laid_internal_strconv_uint64pow10 {H : Type} : DataW H := .agg [.lit (.int .u64 1), .lit (.int .u64 10), .lit (.int .u64 100), .lit (.int .u64 1000), .lit (.int .u64 10000), .lit (.int .u64 100000), .lit (.int .u64 1000000), .lit (.int .u64 10000000), .lit (.int .u64 100000000), .lit (.int .u64 1000000000), .lit (.int .u64 10000000000), .lit (.int .u64 100000000000), .lit (.int .u64 1000000000000), .lit (.int .u64 10000000000000), .lit (.int .u64 100000000000000), .lit (.int .u64 1000000000000000), .lit (.int .u64 10000000000000000), .lit (.int .u64 100000000000000000), .lit (.int .u64 1000000000000000000), .lit (.int .u64 10000000000000000000)]

/-- 'zzlaws_internal_document_b1.FnKeysAddBuildsExactly': WHATEVER THE INPUT: true; the input reads as it did. -/
def fnKeysAddBuildsExactlySpec : ChangeSpec := { name := "fnKeysAddBuildsExactly", fn := fun _ => fun
  | [d1, d2] => { results := [.lit (.bool true)], args := [d1, d2] }
  | _ => none }
def fnKeysAddBuildsExactlyRow : OpenClaim := { program := "qxb6600738adoor", sum := "14d863f19e65610e1fd16d59b93f32841d41d3cb210c8902df0ae023cfe454eb", func := "example.com/quorate/quorate/zzlaws_internal_document_b1.FnKeysAddBuildsExactly", spec := "fnKeysAddBuildsExactly", named := ["unicode/utf8.first", "unicode/utf8.acceptRanges", "strconv.isPrint16", "strconv.isNotPrint16", "strconv.isPrint32", "strconv.isNotPrint32", "strconv.isGraphic"], apart := false, laid := [("unicode/utf8.acceptRanges", laid_unicode_utf8_acceptRanges), ("strconv.isGraphic", laid_strconv_isGraphic), ("strconv.isNotPrint16", laid_strconv_isNotPrint16), ("strconv.isNotPrint32", laid_strconv_isNotPrint32), ("strconv.isPrint16", laid_strconv_isPrint16), ("strconv.isPrint32", laid_strconv_isPrint32), ("unicode/utf8.first", laid_unicode_utf8_first)] }
def FnKeysAddBuildsExactlySaid : Prop := fnKeysAddBuildsExactlyRow.holds Tryd.pinned (OpenSpec.ofChange fnKeysAddBuildsExactlySpec)

/-- ITS FALSE NEIGHBOUR: 'it returns false'. Refute it at one input. -/
def fnKeysAddBuildsExactlyWrong : ChangeSpec := { name := "fnKeysAddBuildsExactly", fn := fun _ => fun
  | [d1, d2] => { results := [.lit (.bool false)], args := [d1, d2] }
  | _ => none }
def FnKeysAddBuildsExactlyWrongFalsely : Prop := fnKeysAddBuildsExactlyRow.holds Tryd.pinned (OpenSpec.ofChange fnKeysAddBuildsExactlyWrong)

/-- 'zzlaws_internal_document_b1.FnKeysAddLeavesItsSourceAlone': WHATEVER THE INPUT: true; the input reads as it did. -/
def fnKeysAddLeavesItsSourceAloneSpec : ChangeSpec := { name := "fnKeysAddLeavesItsSourceAlone", fn := fun _ => fun
  | [d1, d2, d3, d4, d5, d6] => { results := [.lit (.bool true)], args := [d1, d2, d3, d4, d5, d6] }
  | _ => none }
def fnKeysAddLeavesItsSourceAloneRow : OpenClaim := { program := "qxb6600738adoor", sum := "14d863f19e65610e1fd16d59b93f32841d41d3cb210c8902df0ae023cfe454eb", func := "example.com/quorate/quorate/zzlaws_internal_document_b1.FnKeysAddLeavesItsSourceAlone", spec := "fnKeysAddLeavesItsSourceAlone", named := ["unicode/utf8.first", "unicode/utf8.acceptRanges", "strconv.isPrint16", "strconv.isNotPrint16", "strconv.isPrint32", "strconv.isNotPrint32", "strconv.isGraphic"], apart := false, laid := [("unicode/utf8.acceptRanges", laid_unicode_utf8_acceptRanges), ("strconv.isGraphic", laid_strconv_isGraphic), ("strconv.isNotPrint16", laid_strconv_isNotPrint16), ("strconv.isNotPrint32", laid_strconv_isNotPrint32), ("strconv.isPrint16", laid_strconv_isPrint16), ("strconv.isPrint32", laid_strconv_isPrint32), ("unicode/utf8.first", laid_unicode_utf8_first)] }
def FnKeysAddLeavesItsSourceAloneSaid : Prop := fnKeysAddLeavesItsSourceAloneRow.holds Tryd.pinned (OpenSpec.ofChange fnKeysAddLeavesItsSourceAloneSpec)

/-- ITS FALSE NEIGHBOUR: 'it returns false'. Refute it at one input. -/
def fnKeysAddLeavesItsSourceAloneWrong : ChangeSpec := { name := "fnKeysAddLeavesItsSourceAlone", fn := fun _ => fun
  | [d1, d2, d3, d4, d5, d6] => { results := [.lit (.bool false)], args := [d1, d2, d3, d4, d5, d6] }
  | _ => none }
def FnKeysAddLeavesItsSourceAloneWrongFalsely : Prop := fnKeysAddLeavesItsSourceAloneRow.holds Tryd.pinned (OpenSpec.ofChange fnKeysAddLeavesItsSourceAloneWrong)

/-- 'zzlaws_internal_document_b1.FnKeysWithExactly': WHATEVER THE INPUT: true; the input reads as it did. -/
def fnKeysWithExactlySpec : ChangeSpec := { name := "fnKeysWithExactly", fn := fun _ => fun
  | [d1, d2, d3, d4, d5, d6] => { results := [.lit (.bool true)], args := [d1, d2, d3, d4, d5, d6] }
  | _ => none }
def fnKeysWithExactlyRow : OpenClaim := { program := "qxb6600738adoor", sum := "14d863f19e65610e1fd16d59b93f32841d41d3cb210c8902df0ae023cfe454eb", func := "example.com/quorate/quorate/zzlaws_internal_document_b1.FnKeysWithExactly", spec := "fnKeysWithExactly", named := ["unicode/utf8.first", "unicode/utf8.acceptRanges", "strconv.isPrint16", "strconv.isNotPrint16", "strconv.isPrint32", "strconv.isNotPrint32", "strconv.isGraphic"], apart := false, laid := [("unicode/utf8.acceptRanges", laid_unicode_utf8_acceptRanges), ("strconv.isGraphic", laid_strconv_isGraphic), ("strconv.isNotPrint16", laid_strconv_isNotPrint16), ("strconv.isNotPrint32", laid_strconv_isNotPrint32), ("strconv.isPrint16", laid_strconv_isPrint16), ("strconv.isPrint32", laid_strconv_isPrint32), ("unicode/utf8.first", laid_unicode_utf8_first)] }
def FnKeysWithExactlySaid : Prop := fnKeysWithExactlyRow.holds Tryd.pinned (OpenSpec.ofChange fnKeysWithExactlySpec)

/-- ITS FALSE NEIGHBOUR: 'it returns false'. Refute it at one input. -/
def fnKeysWithExactlyWrong : ChangeSpec := { name := "fnKeysWithExactly", fn := fun _ => fun
  | [d1, d2, d3, d4, d5, d6] => { results := [.lit (.bool false)], args := [d1, d2, d3, d4, d5, d6] }
  | _ => none }
def FnKeysWithExactlyWrongFalsely : Prop := fnKeysWithExactlyRow.holds Tryd.pinned (OpenSpec.ofChange fnKeysWithExactlyWrong)

/-- 'zzlaws_internal_document_b1.FnKeysWithAssociative': WHATEVER THE INPUT: true; the input reads as it did. -/
def fnKeysWithAssociativeSpec : ChangeSpec := { name := "fnKeysWithAssociative", fn := fun _ => fun
  | [d1, d2, d3, d4, d5, d6, d7, d8, d9] => { results := [.lit (.bool true)], args := [d1, d2, d3, d4, d5, d6, d7, d8, d9] }
  | _ => none }
def fnKeysWithAssociativeRow : OpenClaim := { program := "qxb6600738adoor", sum := "14d863f19e65610e1fd16d59b93f32841d41d3cb210c8902df0ae023cfe454eb", func := "example.com/quorate/quorate/zzlaws_internal_document_b1.FnKeysWithAssociative", spec := "fnKeysWithAssociative", named := ["unicode/utf8.first", "unicode/utf8.acceptRanges", "strconv.isPrint16", "strconv.isNotPrint16", "strconv.isPrint32", "strconv.isNotPrint32", "strconv.isGraphic"], apart := false, laid := [("unicode/utf8.acceptRanges", laid_unicode_utf8_acceptRanges), ("strconv.isGraphic", laid_strconv_isGraphic), ("strconv.isNotPrint16", laid_strconv_isNotPrint16), ("strconv.isNotPrint32", laid_strconv_isNotPrint32), ("strconv.isPrint16", laid_strconv_isPrint16), ("strconv.isPrint32", laid_strconv_isPrint32), ("unicode/utf8.first", laid_unicode_utf8_first)] }
def FnKeysWithAssociativeSaid : Prop := fnKeysWithAssociativeRow.holds Tryd.pinned (OpenSpec.ofChange fnKeysWithAssociativeSpec)

/-- ITS FALSE NEIGHBOUR: 'it returns false'. Refute it at one input. -/
def fnKeysWithAssociativeWrong : ChangeSpec := { name := "fnKeysWithAssociative", fn := fun _ => fun
  | [d1, d2, d3, d4, d5, d6, d7, d8, d9] => { results := [.lit (.bool false)], args := [d1, d2, d3, d4, d5, d6, d7, d8, d9] }
  | _ => none }
def FnKeysWithAssociativeWrongFalsely : Prop := fnKeysWithAssociativeRow.holds Tryd.pinned (OpenSpec.ofChange fnKeysWithAssociativeWrong)

/-- 'zzlaws_internal_document_b1.FnPathStringConcatenates': WHATEVER THE INPUT: true; the input reads as it did. -/
def fnPathStringConcatenatesSpec : ChangeSpec := { name := "fnPathStringConcatenates", fn := fun _ => fun
  | [d1, d2, d3, d4] => { results := [.lit (.bool true)], args := [d1, d2, d3, d4] }
  | _ => none }
def fnPathStringConcatenatesRow : OpenClaim := { program := "qxb6600738adoor", sum := "14d863f19e65610e1fd16d59b93f32841d41d3cb210c8902df0ae023cfe454eb", func := "example.com/quorate/quorate/zzlaws_internal_document_b1.FnPathStringConcatenates", spec := "fnPathStringConcatenates", inPlace := ["internal/abi.NoEscape"], named := ["internal/strconv.uint64pow10", "math/bits.deBruijn32tab", "math/bits.deBruijn64tab", "unicode/utf8.first", "unicode/utf8.acceptRanges", "strconv.isPrint16", "strconv.isNotPrint16", "strconv.isPrint32", "strconv.isNotPrint32", "strconv.isGraphic"], apart := false, laid := [("math/bits.deBruijn32tab", laid_math_bits_deBruijn32tab), ("math/bits.deBruijn64tab", laid_math_bits_deBruijn64tab), ("internal/strconv.uint64pow10", laid_internal_strconv_uint64pow10), ("unicode/utf8.acceptRanges", laid_unicode_utf8_acceptRanges), ("strconv.isGraphic", laid_strconv_isGraphic), ("strconv.isNotPrint16", laid_strconv_isNotPrint16), ("strconv.isNotPrint32", laid_strconv_isNotPrint32), ("strconv.isPrint16", laid_strconv_isPrint16), ("strconv.isPrint32", laid_strconv_isPrint32), ("unicode/utf8.first", laid_unicode_utf8_first)] }
def FnPathStringConcatenatesSaid : Prop := fnPathStringConcatenatesRow.holds Tryd.pinned (OpenSpec.ofChange fnPathStringConcatenatesSpec)

/-- ITS FALSE NEIGHBOUR: 'it returns false'. Refute it at one input. -/
def fnPathStringConcatenatesWrong : ChangeSpec := { name := "fnPathStringConcatenates", fn := fun _ => fun
  | [d1, d2, d3, d4] => { results := [.lit (.bool false)], args := [d1, d2, d3, d4] }
  | _ => none }
def FnPathStringConcatenatesWrongFalsely : Prop := fnPathStringConcatenatesRow.holds Tryd.pinned (OpenSpec.ofChange fnPathStringConcatenatesWrong)

/-- 'zzlaws_internal_document_b1.FnPathStringInjective': WHATEVER THE INPUT: true; the input reads as it did. -/
def fnPathStringInjectiveSpec : ChangeSpec := { name := "fnPathStringInjective", fn := fun _ => fun
  | [d1, d2, d3, d4] => { results := [.lit (.bool true)], args := [d1, d2, d3, d4] }
  | _ => none }
def fnPathStringInjectiveRow : OpenClaim := { program := "qxb6600738adoor", sum := "14d863f19e65610e1fd16d59b93f32841d41d3cb210c8902df0ae023cfe454eb", func := "example.com/quorate/quorate/zzlaws_internal_document_b1.FnPathStringInjective", spec := "fnPathStringInjective", inPlace := ["internal/abi.NoEscape"], named := ["internal/strconv.uint64pow10", "math/bits.deBruijn32tab", "math/bits.deBruijn64tab", "unicode/utf8.first", "unicode/utf8.acceptRanges", "strconv.isPrint16", "strconv.isNotPrint16", "strconv.isPrint32", "strconv.isNotPrint32", "strconv.isGraphic"], apart := false, laid := [("math/bits.deBruijn32tab", laid_math_bits_deBruijn32tab), ("math/bits.deBruijn64tab", laid_math_bits_deBruijn64tab), ("internal/strconv.uint64pow10", laid_internal_strconv_uint64pow10), ("unicode/utf8.acceptRanges", laid_unicode_utf8_acceptRanges), ("strconv.isGraphic", laid_strconv_isGraphic), ("strconv.isNotPrint16", laid_strconv_isNotPrint16), ("strconv.isNotPrint32", laid_strconv_isNotPrint32), ("strconv.isPrint16", laid_strconv_isPrint16), ("strconv.isPrint32", laid_strconv_isPrint32), ("unicode/utf8.first", laid_unicode_utf8_first)] }
def FnPathStringInjectiveSaid : Prop := fnPathStringInjectiveRow.holds Tryd.pinned (OpenSpec.ofChange fnPathStringInjectiveSpec)

/-- ITS FALSE NEIGHBOUR: 'it returns false'. Refute it at one input. -/
def fnPathStringInjectiveWrong : ChangeSpec := { name := "fnPathStringInjective", fn := fun _ => fun
  | [d1, d2, d3, d4] => { results := [.lit (.bool false)], args := [d1, d2, d3, d4] }
  | _ => none }
def FnPathStringInjectiveWrongFalsely : Prop := fnPathStringInjectiveRow.holds Tryd.pinned (OpenSpec.ofChange fnPathStringInjectiveWrong)

end Rows
end Go.Proofs.Qxb6600738aDoor
