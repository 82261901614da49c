/-
  NARROWER THAN 'FOR EVERY INPUT', by the rows' own cells (each row's printed sentence says how): FnLevelJSONsApart: laid · FnLevelJSON: laid · FnLevelRoads: laid · FnLevelJSONAll: laid · FnLevelAppendAll: laid · FnLevelAppendTwice: laid · FnLevelAppend: laid · FnLevelTextAll: laid · FnLevelText: laid · FnLevelTextsApart: laid · FnLevelOfLevel: laid · FnLevelsApart: laid.
  DERIVED. THE GIVEN ROWS OF THIS SEAT. 12 by the template 'for every input the law returns true; each argument reads behind the call as it read before'; 0 by the template 'total and deterministic' (their statements: YtahmahdfjiojjaaDoorTotals.lean).
  GIVEN WITH THE SEED: the statements are not yours to turn. If you find one false, say at which input.
  Laid BY PROGRAM, IN A SANDBOX (cutbox-rows.mjs): the forced cells as the released guide's own fill.sh prints them over the translation 63da3a7ccea7afc7… (all of the seat's roots in one cut). By AI agents, Wed Nov 11 2026. No macro, syntax, notation, axiom, sorry.
-/
import Derived.Test.YtahmahdfjiojjaaDoorChecked
import GoSem.PinnedTables
import GoSem.Claim
import GoSem.ClaimJoined
import GoSem.ClaimMapViews
import Derived.JoinedTies
import Derived.KernelRfl
namespace Go.Proofs.YtahmahdfjiojjaaDoor
/- THE CELL 'sum', in the pinned program and in every row, IS THE sha256 OF THE DUMP (.gsa) THAT YtahmahdfjiojjaaDoorProg.lean LOADS. Nothing in Lean hashes anything: it is a label: what it is worth is what the hold of that sum in a sandbox is worth. -/
noncomputable def Tryd.pinned : Pinned := { name := "ytahmahdfjiojjaadoor", sum := "63da3a7ccea7afc78d8e24cfc97ddcd523f8305d4a98c948867c2ced295e1999", checked := Tryd.checked }
namespace Rows
def none {H : Type} : Left H := { results := [], args := [] }

/- WHAT THE LISTED PACKAGE-LEVEL VARIABLES READ AS WHEN THE CALL BEGINS. Each datum BY PROGRAM (the guide's laid-datum.mjs) off the statement by which the dump's own 'gosem.cut.vars' lays the variable. In a bare row this is a premise. The card (YtahmahdfjiojjaaDoorCards.lean) ties it to the program's text. -/
def laid_math_bits_deBruijn32tab {H : Type} : DataW H := .agg [.lit (.int .u8 0), .lit (.int .u8 1), .lit (.int .u8 28), .lit (.int .u8 2), .lit (.int .u8 29), .lit (.int .u8 14), .lit (.int .u8 24), .lit (.int .u8 3), .lit (.int .u8 30), .lit (.int .u8 22), .lit (.int .u8 20), .lit (.int .u8 15), .lit (.int .u8 25), .lit (.int .u8 17), .lit (.int .u8 4), .lit (.int .u8 8), .lit (.int .u8 31), .lit (.int .u8 27), .lit (.int .u8 13), .lit (.int .u8 23), .lit (.int .u8 21), .lit (.int .u8 19), .lit (.int .u8 16), .lit (.int .u8 7), .lit (.int .u8 26), .lit (.int .u8 12), .lit (.int .u8 18), .lit (.int .u8 6), .lit (.int .u8 11), .lit (.int .u8 5), .lit (.int .u8 10), .lit (.int .u8 9)]
def laid_math_bits_deBruijn64tab {H : Type} : DataW H := .agg [.lit (.int .u8 0), .lit (.int .u8 1), .lit (.int .u8 56), .lit (.int .u8 2), .lit (.int .u8 57), .lit (.int .u8 49), .lit (.int .u8 28), .lit (.int .u8 3), .lit (.int .u8 61), .lit (.int .u8 58), .lit (.int .u8 42), .lit (.int .u8 50), .lit (.int .u8 38), .lit (.int .u8 29), .lit (.int .u8 17), .lit (.int .u8 4), .lit (.int .u8 62), .lit (.int .u8 47), .lit (.int .u8 59), .lit (.int .u8 36), .lit (.int .u8 45), .lit (.int .u8 43), .lit (.int .u8 51), .lit (.int .u8 22), .lit (.int .u8 53), .lit (.int .u8 39), .lit (.int .u8 33), .lit (.int .u8 30), .lit (.int .u8 24), .lit (.int .u8 18), .lit (.int .u8 12), .lit (.int .u8 5), .lit (.int .u8 63), .lit (.int .u8 55), .lit (.int .u8 48), .lit (.int .u8 27), .lit (.int .u8 60), .lit (.int .u8 41), .lit (.int .u8 37), .lit (.int .u8 16), .lit (.int .u8 46), .lit (.int .u8 35), .lit (.int .u8 44), .lit (.int .u8 21), .lit (.int .u8 52), .lit (.int .u8 32), .lit (.int .u8 23), .lit (.int .u8 11), .lit (.int .u8 54), .lit (.int .u8 26), .lit (.int .u8 40), .lit (.int .u8 15), .lit (.int .u8 34), .lit (.int .u8 20), .lit (.int .u8 31), .lit (.int .u8 10), .lit (.int .u8 25), .lit (.int .u8 14), .lit (.int .u8 19), .lit (.int .u8 9), .lit (.int .u8 13), .lit (.int .u8 8), .lit (.int .u8 7), .lit (.int .u8 6)]
def laid_internal_strconv_uint64pow10 {H : Type} : DataW H := .agg [.lit (.int .u64 1), .lit (.int .u64 10), .lit (.int .u64 100), .lit (.int .u64 1000), .lit (.int .u64 10000), .lit (.int .u64 100000), .lit (.int .u64 1000000), .lit (.int .u64 10000000), .lit (.int .u64 100000000), .lit (.int .u64 1000000000), .lit (.int .u64 10000000000), .lit (.int .u64 100000000000), .lit (.int .u64 1000000000000), .lit (.int .u64 10000000000000), .lit (.int .u64 100000000000000), .lit (.int .u64 1000000000000000), .lit (.int .u64 10000000000000000), .lit (.int .u64 100000000000000000), .lit (.int .u64 1000000000000000000), .lit (.int .u64 10000000000000000000)]
def laid_unicode_utf8_acceptRanges {H : Type} : DataW H := .agg [.agg [.lit (.int .u8 128), .lit (.int .u8 191)], .agg [.lit (.int .u8 160), .lit (.int .u8 191)], .agg [.lit (.int .u8 128), .lit (.int .u8 159)], .agg [.lit (.int .u8 144), .lit (.int .u8 191)], .agg [.lit (.int .u8 128), .lit (.int .u8 143)], .agg [.lit (.int .u8 0), .lit (.int .u8 0)], .agg [.lit (.int .u8 0), .lit (.int .u8 0)], .agg [.lit (.int .u8 0), .lit (.int .u8 0)], .agg [.lit (.int .u8 0), .lit (.int .u8 0)], .agg [.lit (.int .u8 0), .lit (.int .u8 0)], .agg [.lit (.int .u8 0), .lit (.int .u8 0)], .agg [.lit (.int .u8 0), .lit (.int .u8 0)], .agg [.lit (.int .u8 0), .lit (.int .u8 0)], .agg [.lit (.int .u8 0), .lit (.int .u8 0)], .agg [.lit (.int .u8 0), .lit (.int .u8 0)], .agg [.lit (.int .u8 0), .lit (.int .u8 0)]]
/-- One of Go's own tables, pinned by name: the form's constant. -/
def laid_strconv_isGraphic : DataW Unit := Go.Pinned.isGraphic
/-- One of Go's own tables, pinned by name: the form's constant. -/
def laid_strconv_isNotPrint16 : DataW Unit := Go.Pinned.isNotPrint16
/-- One of Go's own tables, pinned by name: the form's constant. -/
def laid_strconv_isNotPrint32 : DataW Unit := Go.Pinned.isNotPrint32
/-- One of Go's own tables, pinned by name: the form's constant. -/
def laid_strconv_isPrint16 : DataW Unit := Go.Pinned.isPrint16
/-- One of Go's own tables, pinned by name: the form's constant. -/
def laid_strconv_isPrint32 : DataW Unit := Go.Pinned.isPrint32
/-- One of Go's own tables, pinned by name: the form's constant. -/
def laid_unicode_utf8_first : DataW Unit := Go.Pinned.utf8First

/-- 'laws.FnLevelJSONsApart': WHATEVER THE INPUT: true; the input reads as it did. -/
def fnLevelJSONsApartSpec : ChangeSpec := { name := "fnLevelJSONsApart", fn := fun _ => fun
  | [d1, d2] => { results := [.lit (.bool true)], args := [d1, d2] }
  | _ => none }
def fnLevelJSONsApartRow : OpenClaim := { program := "ytahmahdfjiojjaadoor", sum := "63da3a7ccea7afc78d8e24cfc97ddcd523f8305d4a98c948867c2ced295e1999", func := "lib-fingerpost/laws.FnLevelJSONsApart", spec := "fnLevelJSONsApart", unfollowed := true, recurses := true, named := ["internal/strconv.uint64pow10", "math/bits.deBruijn32tab", "math/bits.deBruijn64tab", "unicode/utf8.first", "unicode/utf8.acceptRanges", "strconv.isPrint16", "strconv.isNotPrint16", "strconv.isPrint32", "strconv.isNotPrint32", "strconv.isGraphic"], apart := false, laid := [("math/bits.deBruijn32tab", laid_math_bits_deBruijn32tab), ("math/bits.deBruijn64tab", laid_math_bits_deBruijn64tab), ("internal/strconv.uint64pow10", laid_internal_strconv_uint64pow10), ("unicode/utf8.acceptRanges", laid_unicode_utf8_acceptRanges), ("strconv.isGraphic", laid_strconv_isGraphic), ("strconv.isNotPrint16", laid_strconv_isNotPrint16), ("strconv.isNotPrint32", laid_strconv_isNotPrint32), ("strconv.isPrint16", laid_strconv_isPrint16), ("strconv.isPrint32", laid_strconv_isPrint32), ("unicode/utf8.first", laid_unicode_utf8_first)] }
def FnLevelJSONsApartSaid : Prop := fnLevelJSONsApartRow.holds Tryd.pinned (OpenSpec.ofChange fnLevelJSONsApartSpec)

/-- ITS FALSE NEIGHBOUR: 'it returns false'. Refute it at one input. -/
def fnLevelJSONsApartWrong : ChangeSpec := { name := "fnLevelJSONsApart", fn := fun _ => fun
  | [d1, d2] => { results := [.lit (.bool false)], args := [d1, d2] }
  | _ => none }
def FnLevelJSONsApartWrongFalsely : Prop := fnLevelJSONsApartRow.holds Tryd.pinned (OpenSpec.ofChange fnLevelJSONsApartWrong)

/-- 'laws.FnLevelJSON': WHATEVER THE INPUT: true; the input reads as it did. -/
def fnLevelJSONSpec : ChangeSpec := { name := "fnLevelJSON", fn := fun _ => fun
  | [d] => { results := [.lit (.bool true)], args := [d] }
  | _ => none }
def fnLevelJSONRow : OpenClaim := { program := "ytahmahdfjiojjaadoor", sum := "63da3a7ccea7afc78d8e24cfc97ddcd523f8305d4a98c948867c2ced295e1999", func := "lib-fingerpost/laws.FnLevelJSON", spec := "fnLevelJSON", unfollowed := true, recurses := true, named := ["internal/strconv.uint64pow10", "math/bits.deBruijn32tab", "math/bits.deBruijn64tab", "unicode/utf8.first", "unicode/utf8.acceptRanges", "strconv.isPrint16", "strconv.isNotPrint16", "strconv.isPrint32", "strconv.isNotPrint32", "strconv.isGraphic"], apart := false, laid := [("math/bits.deBruijn32tab", laid_math_bits_deBruijn32tab), ("math/bits.deBruijn64tab", laid_math_bits_deBruijn64tab), ("internal/strconv.uint64pow10", laid_internal_strconv_uint64pow10), ("unicode/utf8.acceptRanges", laid_unicode_utf8_acceptRanges), ("strconv.isGraphic", laid_strconv_isGraphic), ("strconv.isNotPrint16", laid_strconv_isNotPrint16), ("strconv.isNotPrint32", laid_strconv_isNotPrint32), ("strconv.isPrint16", laid_strconv_isPrint16), ("strconv.isPrint32", laid_strconv_isPrint32), ("unicode/utf8.first", laid_unicode_utf8_first)] }
def FnLevelJSONSaid : Prop := fnLevelJSONRow.holds Tryd.pinned (OpenSpec.ofChange fnLevelJSONSpec)

/-- ITS FALSE NEIGHBOUR: 'it returns false'. Refute it at one input. -/
def fnLevelJSONWrong : ChangeSpec := { name := "fnLevelJSON", fn := fun _ => fun
  | [d] => { results := [.lit (.bool false)], args := [d] }
  | _ => none }
def FnLevelJSONWrongFalsely : Prop := fnLevelJSONRow.holds Tryd.pinned (OpenSpec.ofChange fnLevelJSONWrong)

/-- 'laws.FnLevelRoads': WHATEVER THE INPUT: true; the input reads as it did. -/
def fnLevelRoadsSpec : ChangeSpec := { name := "fnLevelRoads", fn := fun _ => fun
  | [d] => { results := [.lit (.bool true)], args := [d] }
  | _ => none }
def fnLevelRoadsRow : OpenClaim := { program := "ytahmahdfjiojjaadoor", sum := "63da3a7ccea7afc78d8e24cfc97ddcd523f8305d4a98c948867c2ced295e1999", func := "lib-fingerpost/laws.FnLevelRoads", spec := "fnLevelRoads", unfollowed := true, recurses := true, named := ["internal/strconv.uint64pow10", "math/bits.deBruijn32tab", "math/bits.deBruijn64tab", "unicode/utf8.first", "unicode/utf8.acceptRanges", "strconv.isPrint16", "strconv.isNotPrint16", "strconv.isPrint32", "strconv.isNotPrint32", "strconv.isGraphic"], apart := false, laid := [("math/bits.deBruijn32tab", laid_math_bits_deBruijn32tab), ("math/bits.deBruijn64tab", laid_math_bits_deBruijn64tab), ("internal/strconv.uint64pow10", laid_internal_strconv_uint64pow10), ("unicode/utf8.acceptRanges", laid_unicode_utf8_acceptRanges), ("strconv.isGraphic", laid_strconv_isGraphic), ("strconv.isNotPrint16", laid_strconv_isNotPrint16), ("strconv.isNotPrint32", laid_strconv_isNotPrint32), ("strconv.isPrint16", laid_strconv_isPrint16), ("strconv.isPrint32", laid_strconv_isPrint32), ("unicode/utf8.first", laid_unicode_utf8_first)] }
def FnLevelRoadsSaid : Prop := fnLevelRoadsRow.holds Tryd.pinned (OpenSpec.ofChange fnLevelRoadsSpec)

/-- ITS FALSE NEIGHBOUR: 'it returns false'. Refute it at one input. -/
def fnLevelRoadsWrong : ChangeSpec := { name := "fnLevelRoads", fn := fun _ => fun
  | [d] => { results := [.lit (.bool false)], args := [d] }
  | _ => none }
def FnLevelRoadsWrongFalsely : Prop := fnLevelRoadsRow.holds Tryd.pinned (OpenSpec.ofChange fnLevelRoadsWrong)

/-- 'laws.FnLevelJSONAll': WHATEVER THE INPUT: true; the input reads as it did. -/
def fnLevelJSONAllSpec : ChangeSpec := { name := "fnLevelJSONAll", fn := fun _ => fun
  | [d] => { results := [.lit (.bool true)], args := [d] }
  | _ => none }
def fnLevelJSONAllRow : OpenClaim := { program := "ytahmahdfjiojjaadoor", sum := "63da3a7ccea7afc78d8e24cfc97ddcd523f8305d4a98c948867c2ced295e1999", func := "lib-fingerpost/laws.FnLevelJSONAll", spec := "fnLevelJSONAll", unfollowed := true, recurses := true, named := ["internal/strconv.uint64pow10", "math/bits.deBruijn32tab", "math/bits.deBruijn64tab", "unicode/utf8.first", "unicode/utf8.acceptRanges", "strconv.isPrint16", "strconv.isNotPrint16", "strconv.isPrint32", "strconv.isNotPrint32", "strconv.isGraphic"], apart := false, laid := [("math/bits.deBruijn32tab", laid_math_bits_deBruijn32tab), ("math/bits.deBruijn64tab", laid_math_bits_deBruijn64tab), ("internal/strconv.uint64pow10", laid_internal_strconv_uint64pow10), ("unicode/utf8.acceptRanges", laid_unicode_utf8_acceptRanges), ("strconv.isGraphic", laid_strconv_isGraphic), ("strconv.isNotPrint16", laid_strconv_isNotPrint16), ("strconv.isNotPrint32", laid_strconv_isNotPrint32), ("strconv.isPrint16", laid_strconv_isPrint16), ("strconv.isPrint32", laid_strconv_isPrint32), ("unicode/utf8.first", laid_unicode_utf8_first)] }
def FnLevelJSONAllSaid : Prop := fnLevelJSONAllRow.holds Tryd.pinned (OpenSpec.ofChange fnLevelJSONAllSpec)

/-- ITS FALSE NEIGHBOUR: 'it returns false'. Refute it at one input. -/
def fnLevelJSONAllWrong : ChangeSpec := { name := "fnLevelJSONAll", fn := fun _ => fun
  | [d] => { results := [.lit (.bool false)], args := [d] }
  | _ => none }
def FnLevelJSONAllWrongFalsely : Prop := fnLevelJSONAllRow.holds Tryd.pinned (OpenSpec.ofChange fnLevelJSONAllWrong)

/-- 'laws.FnLevelAppendAll': WHATEVER THE INPUT: true; the input reads as it did. -/
def fnLevelAppendAllSpec : ChangeSpec := { name := "fnLevelAppendAll", fn := fun _ => fun
  | [d1, d2] => { results := [.lit (.bool true)], args := [d1, d2] }
  | _ => none }
def fnLevelAppendAllRow : OpenClaim := { program := "ytahmahdfjiojjaadoor", sum := "63da3a7ccea7afc78d8e24cfc97ddcd523f8305d4a98c948867c2ced295e1999", func := "lib-fingerpost/laws.FnLevelAppendAll", spec := "fnLevelAppendAll", unfollowed := true, recurses := true, named := ["internal/strconv.uint64pow10", "math/bits.deBruijn32tab", "math/bits.deBruijn64tab"], apart := false, laid := [("math/bits.deBruijn32tab", laid_math_bits_deBruijn32tab), ("math/bits.deBruijn64tab", laid_math_bits_deBruijn64tab), ("internal/strconv.uint64pow10", laid_internal_strconv_uint64pow10)] }
def FnLevelAppendAllSaid : Prop := fnLevelAppendAllRow.holds Tryd.pinned (OpenSpec.ofChange fnLevelAppendAllSpec)

/-- ITS FALSE NEIGHBOUR: 'it returns false'. Refute it at one input. -/
def fnLevelAppendAllWrong : ChangeSpec := { name := "fnLevelAppendAll", fn := fun _ => fun
  | [d1, d2] => { results := [.lit (.bool false)], args := [d1, d2] }
  | _ => none }
def FnLevelAppendAllWrongFalsely : Prop := fnLevelAppendAllRow.holds Tryd.pinned (OpenSpec.ofChange fnLevelAppendAllWrong)

/-- 'laws.FnLevelAppendTwice': WHATEVER THE INPUT: true; the input reads as it did. -/
def fnLevelAppendTwiceSpec : ChangeSpec := { name := "fnLevelAppendTwice", fn := fun _ => fun
  | [d1, d2, d3] => { results := [.lit (.bool true)], args := [d1, d2, d3] }
  | _ => none }
def fnLevelAppendTwiceRow : OpenClaim := { program := "ytahmahdfjiojjaadoor", sum := "63da3a7ccea7afc78d8e24cfc97ddcd523f8305d4a98c948867c2ced295e1999", func := "lib-fingerpost/laws.FnLevelAppendTwice", spec := "fnLevelAppendTwice", unfollowed := true, recurses := true, named := ["internal/strconv.uint64pow10", "math/bits.deBruijn32tab", "math/bits.deBruijn64tab"], apart := false, laid := [("math/bits.deBruijn32tab", laid_math_bits_deBruijn32tab), ("math/bits.deBruijn64tab", laid_math_bits_deBruijn64tab), ("internal/strconv.uint64pow10", laid_internal_strconv_uint64pow10)] }
def FnLevelAppendTwiceSaid : Prop := fnLevelAppendTwiceRow.holds Tryd.pinned (OpenSpec.ofChange fnLevelAppendTwiceSpec)

/-- ITS FALSE NEIGHBOUR: 'it returns false'. Refute it at one input. -/
def fnLevelAppendTwiceWrong : ChangeSpec := { name := "fnLevelAppendTwice", fn := fun _ => fun
  | [d1, d2, d3] => { results := [.lit (.bool false)], args := [d1, d2, d3] }
  | _ => none }
def FnLevelAppendTwiceWrongFalsely : Prop := fnLevelAppendTwiceRow.holds Tryd.pinned (OpenSpec.ofChange fnLevelAppendTwiceWrong)

/-- 'laws.FnLevelAppend': WHATEVER THE INPUT: true; the input reads as it did. -/
def fnLevelAppendSpec : ChangeSpec := { name := "fnLevelAppend", fn := fun _ => fun
  | [d1, d2] => { results := [.lit (.bool true)], args := [d1, d2] }
  | _ => none }
def fnLevelAppendRow : OpenClaim := { program := "ytahmahdfjiojjaadoor", sum := "63da3a7ccea7afc78d8e24cfc97ddcd523f8305d4a98c948867c2ced295e1999", func := "lib-fingerpost/laws.FnLevelAppend", spec := "fnLevelAppend", unfollowed := true, recurses := true, named := ["internal/strconv.uint64pow10", "math/bits.deBruijn32tab", "math/bits.deBruijn64tab"], apart := false, laid := [("math/bits.deBruijn32tab", laid_math_bits_deBruijn32tab), ("math/bits.deBruijn64tab", laid_math_bits_deBruijn64tab), ("internal/strconv.uint64pow10", laid_internal_strconv_uint64pow10)] }
def FnLevelAppendSaid : Prop := fnLevelAppendRow.holds Tryd.pinned (OpenSpec.ofChange fnLevelAppendSpec)

/-- ITS FALSE NEIGHBOUR: 'it returns false'. Refute it at one input. -/
def fnLevelAppendWrong : ChangeSpec := { name := "fnLevelAppend", fn := fun _ => fun
  | [d1, d2] => { results := [.lit (.bool false)], args := [d1, d2] }
  | _ => none }
def FnLevelAppendWrongFalsely : Prop := fnLevelAppendRow.holds Tryd.pinned (OpenSpec.ofChange fnLevelAppendWrong)

/-- 'laws.FnLevelTextAll': WHATEVER THE INPUT: true; the input reads as it did. -/
def fnLevelTextAllSpec : ChangeSpec := { name := "fnLevelTextAll", fn := fun _ => fun
  | [d] => { results := [.lit (.bool true)], args := [d] }
  | _ => none }
def fnLevelTextAllRow : OpenClaim := { program := "ytahmahdfjiojjaadoor", sum := "63da3a7ccea7afc78d8e24cfc97ddcd523f8305d4a98c948867c2ced295e1999", func := "lib-fingerpost/laws.FnLevelTextAll", spec := "fnLevelTextAll", unfollowed := true, recurses := true, named := ["internal/strconv.uint64pow10", "math/bits.deBruijn32tab", "math/bits.deBruijn64tab"], apart := false, laid := [("math/bits.deBruijn32tab", laid_math_bits_deBruijn32tab), ("math/bits.deBruijn64tab", laid_math_bits_deBruijn64tab), ("internal/strconv.uint64pow10", laid_internal_strconv_uint64pow10)] }
def FnLevelTextAllSaid : Prop := fnLevelTextAllRow.holds Tryd.pinned (OpenSpec.ofChange fnLevelTextAllSpec)

/-- ITS FALSE NEIGHBOUR: 'it returns false'. Refute it at one input. -/
def fnLevelTextAllWrong : ChangeSpec := { name := "fnLevelTextAll", fn := fun _ => fun
  | [d] => { results := [.lit (.bool false)], args := [d] }
  | _ => none }
def FnLevelTextAllWrongFalsely : Prop := fnLevelTextAllRow.holds Tryd.pinned (OpenSpec.ofChange fnLevelTextAllWrong)

/-- 'laws.FnLevelText': WHATEVER THE INPUT: true; the input reads as it did. -/
def fnLevelTextSpec : ChangeSpec := { name := "fnLevelText", fn := fun _ => fun
  | [d] => { results := [.lit (.bool true)], args := [d] }
  | _ => none }
def fnLevelTextRow : OpenClaim := { program := "ytahmahdfjiojjaadoor", sum := "63da3a7ccea7afc78d8e24cfc97ddcd523f8305d4a98c948867c2ced295e1999", func := "lib-fingerpost/laws.FnLevelText", spec := "fnLevelText", unfollowed := true, recurses := true, named := ["internal/strconv.uint64pow10", "math/bits.deBruijn32tab", "math/bits.deBruijn64tab"], apart := false, laid := [("math/bits.deBruijn32tab", laid_math_bits_deBruijn32tab), ("math/bits.deBruijn64tab", laid_math_bits_deBruijn64tab), ("internal/strconv.uint64pow10", laid_internal_strconv_uint64pow10)] }
def FnLevelTextSaid : Prop := fnLevelTextRow.holds Tryd.pinned (OpenSpec.ofChange fnLevelTextSpec)

/-- ITS FALSE NEIGHBOUR: 'it returns false'. Refute it at one input. -/
def fnLevelTextWrong : ChangeSpec := { name := "fnLevelText", fn := fun _ => fun
  | [d] => { results := [.lit (.bool false)], args := [d] }
  | _ => none }
def FnLevelTextWrongFalsely : Prop := fnLevelTextRow.holds Tryd.pinned (OpenSpec.ofChange fnLevelTextWrong)

/-- 'laws.FnLevelTextsApart': WHATEVER THE INPUT: true; the input reads as it did. -/
def fnLevelTextsApartSpec : ChangeSpec := { name := "fnLevelTextsApart", fn := fun _ => fun
  | [d1, d2] => { results := [.lit (.bool true)], args := [d1, d2] }
  | _ => none }
def fnLevelTextsApartRow : OpenClaim := { program := "ytahmahdfjiojjaadoor", sum := "63da3a7ccea7afc78d8e24cfc97ddcd523f8305d4a98c948867c2ced295e1999", func := "lib-fingerpost/laws.FnLevelTextsApart", spec := "fnLevelTextsApart", unfollowed := true, recurses := true, named := ["internal/strconv.uint64pow10", "math/bits.deBruijn32tab", "math/bits.deBruijn64tab"], apart := false, laid := [("math/bits.deBruijn32tab", laid_math_bits_deBruijn32tab), ("math/bits.deBruijn64tab", laid_math_bits_deBruijn64tab), ("internal/strconv.uint64pow10", laid_internal_strconv_uint64pow10)] }
def FnLevelTextsApartSaid : Prop := fnLevelTextsApartRow.holds Tryd.pinned (OpenSpec.ofChange fnLevelTextsApartSpec)

/-- ITS FALSE NEIGHBOUR: 'it returns false'. Refute it at one input. -/
def fnLevelTextsApartWrong : ChangeSpec := { name := "fnLevelTextsApart", fn := fun _ => fun
  | [d1, d2] => { results := [.lit (.bool false)], args := [d1, d2] }
  | _ => none }
def FnLevelTextsApartWrongFalsely : Prop := fnLevelTextsApartRow.holds Tryd.pinned (OpenSpec.ofChange fnLevelTextsApartWrong)

/-- 'laws.FnLevelOfLevel': WHATEVER THE INPUT: true; the input reads as it did. -/
def fnLevelOfLevelSpec : ChangeSpec := { name := "fnLevelOfLevel", fn := fun _ => fun
  | [d] => { results := [.lit (.bool true)], args := [d] }
  | _ => none }
def fnLevelOfLevelRow : OpenClaim := { program := "ytahmahdfjiojjaadoor", sum := "63da3a7ccea7afc78d8e24cfc97ddcd523f8305d4a98c948867c2ced295e1999", func := "lib-fingerpost/laws.FnLevelOfLevel", spec := "fnLevelOfLevel", unfollowed := true, recurses := true, named := ["internal/strconv.uint64pow10", "math/bits.deBruijn32tab", "math/bits.deBruijn64tab"], apart := false, laid := [("math/bits.deBruijn32tab", laid_math_bits_deBruijn32tab), ("math/bits.deBruijn64tab", laid_math_bits_deBruijn64tab), ("internal/strconv.uint64pow10", laid_internal_strconv_uint64pow10)] }
def FnLevelOfLevelSaid : Prop := fnLevelOfLevelRow.holds Tryd.pinned (OpenSpec.ofChange fnLevelOfLevelSpec)

/-- ITS FALSE NEIGHBOUR: 'it returns false'. Refute it at one input. -/
def fnLevelOfLevelWrong : ChangeSpec := { name := "fnLevelOfLevel", fn := fun _ => fun
  | [d] => { results := [.lit (.bool false)], args := [d] }
  | _ => none }
def FnLevelOfLevelWrongFalsely : Prop := fnLevelOfLevelRow.holds Tryd.pinned (OpenSpec.ofChange fnLevelOfLevelWrong)

/-- 'laws.FnLevelsApart': WHATEVER THE INPUT: true; the input reads as it did. -/
def fnLevelsApartSpec : ChangeSpec := { name := "fnLevelsApart", fn := fun _ => fun
  | [d1, d2] => { results := [.lit (.bool true)], args := [d1, d2] }
  | _ => none }
def fnLevelsApartRow : OpenClaim := { program := "ytahmahdfjiojjaadoor", sum := "63da3a7ccea7afc78d8e24cfc97ddcd523f8305d4a98c948867c2ced295e1999", func := "lib-fingerpost/laws.FnLevelsApart", spec := "fnLevelsApart", unfollowed := true, recurses := true, named := ["internal/strconv.uint64pow10", "math/bits.deBruijn32tab", "math/bits.deBruijn64tab"], apart := false, laid := [("math/bits.deBruijn32tab", laid_math_bits_deBruijn32tab), ("math/bits.deBruijn64tab", laid_math_bits_deBruijn64tab), ("internal/strconv.uint64pow10", laid_internal_strconv_uint64pow10)] }
def FnLevelsApartSaid : Prop := fnLevelsApartRow.holds Tryd.pinned (OpenSpec.ofChange fnLevelsApartSpec)

/-- ITS FALSE NEIGHBOUR: 'it returns false'. Refute it at one input. -/
def fnLevelsApartWrong : ChangeSpec := { name := "fnLevelsApart", fn := fun _ => fun
  | [d1, d2] => { results := [.lit (.bool false)], args := [d1, d2] }
  | _ => none }
def FnLevelsApartWrongFalsely : Prop := fnLevelsApartRow.holds Tryd.pinned (OpenSpec.ofChange fnLevelsApartWrong)

/- THE SECOND FORM. 'bulk': how many values and letters a reading holds, each counted each time it is reached (what is shared counts as often as it is met; a slice's spare places count too). A statement '..UptoSaid' is the law's where the arguments, and the package variables that the reading takes, are together of bulk at most 1048576: NARROWER than '..Said'. Prove '..Said' where nothing that the law and all that it calls make is longer than what came in: it says more and counts as full. Else prove '..UptoSaid'. A law counts once. -/
mutual
def uptoBulk {H : Type} : DataW H → Nat
  | .lit (.string bytes) => bytes.length + 1
  | .lit _ => 1
  | .nil => 1
  | .ptr d => uptoBulk d + 1
  | .slice elems spare => uptoBulkAll elems + uptoBulkAll spare + 1
  | .agg parts => uptoBulkAll parts + 1
  | .iface _ d => uptoBulk d + 1
  | .map entries => uptoBulkEntries entries + 1
  | .held _ => 1
def uptoBulkAll {H : Type} : List (DataW H) → Nat
  | [] => 0
  | d :: r => uptoBulk d + uptoBulkAll r
def uptoBulkEntries {H : Type} : List (Lit × DataW H) → Nat
  | [] => 0
  | x :: r => uptoBulkEntry x + uptoBulkEntries r
def uptoBulkEntry {H : Type} : Lit × DataW H → Nat
  | (.string bytes, d) => bytes.length + uptoBulk d + 1
  | (_, d) => uptoBulk d + 1
 end
def uptoSmall : (H : Type) → List (DataW H) → Bool := fun _ ds => decide (uptoBulkAll ds ≤ 1048576)
def OpenSpec.upto (s : _root_.Go.ChangeSpec) : _root_.Go.OpenSpec := { _root_.Go.OpenSpec.ofChange s with cond := some uptoSmall }

/-- 'laws.FnLevelJSONsApart', WHERE WHAT IT READS IS OF BULK AT MOST 1048576: true; the input reads as it did. -/
def fnLevelJSONsApartUptoRow : OpenClaim := { program := "ytahmahdfjiojjaadoor", sum := "63da3a7ccea7afc78d8e24cfc97ddcd523f8305d4a98c948867c2ced295e1999", func := "lib-fingerpost/laws.FnLevelJSONsApart", spec := "fnLevelJSONsApart", unfollowed := true, recurses := true, named := ["internal/strconv.uint64pow10", "math/bits.deBruijn32tab", "math/bits.deBruijn64tab", "unicode/utf8.first", "unicode/utf8.acceptRanges", "strconv.isPrint16", "strconv.isNotPrint16", "strconv.isPrint32", "strconv.isNotPrint32", "strconv.isGraphic"], apart := false, laid := [("math/bits.deBruijn32tab", laid_math_bits_deBruijn32tab), ("math/bits.deBruijn64tab", laid_math_bits_deBruijn64tab), ("internal/strconv.uint64pow10", laid_internal_strconv_uint64pow10), ("unicode/utf8.acceptRanges", laid_unicode_utf8_acceptRanges), ("strconv.isGraphic", laid_strconv_isGraphic), ("strconv.isNotPrint16", laid_strconv_isNotPrint16), ("strconv.isNotPrint32", laid_strconv_isNotPrint32), ("strconv.isPrint16", laid_strconv_isPrint16), ("strconv.isPrint32", laid_strconv_isPrint32), ("unicode/utf8.first", laid_unicode_utf8_first)], narrowed := true }
def FnLevelJSONsApartUptoSaid : Prop := fnLevelJSONsApartUptoRow.holds Tryd.pinned (OpenSpec.upto fnLevelJSONsApartSpec)

/-- 'laws.FnLevelJSON', WHERE WHAT IT READS IS OF BULK AT MOST 1048576: true; the input reads as it did. -/
def fnLevelJSONUptoRow : OpenClaim := { program := "ytahmahdfjiojjaadoor", sum := "63da3a7ccea7afc78d8e24cfc97ddcd523f8305d4a98c948867c2ced295e1999", func := "lib-fingerpost/laws.FnLevelJSON", spec := "fnLevelJSON", unfollowed := true, recurses := true, named := ["internal/strconv.uint64pow10", "math/bits.deBruijn32tab", "math/bits.deBruijn64tab", "unicode/utf8.first", "unicode/utf8.acceptRanges", "strconv.isPrint16", "strconv.isNotPrint16", "strconv.isPrint32", "strconv.isNotPrint32", "strconv.isGraphic"], apart := false, laid := [("math/bits.deBruijn32tab", laid_math_bits_deBruijn32tab), ("math/bits.deBruijn64tab", laid_math_bits_deBruijn64tab), ("internal/strconv.uint64pow10", laid_internal_strconv_uint64pow10), ("unicode/utf8.acceptRanges", laid_unicode_utf8_acceptRanges), ("strconv.isGraphic", laid_strconv_isGraphic), ("strconv.isNotPrint16", laid_strconv_isNotPrint16), ("strconv.isNotPrint32", laid_strconv_isNotPrint32), ("strconv.isPrint16", laid_strconv_isPrint16), ("strconv.isPrint32", laid_strconv_isPrint32), ("unicode/utf8.first", laid_unicode_utf8_first)], narrowed := true }
def FnLevelJSONUptoSaid : Prop := fnLevelJSONUptoRow.holds Tryd.pinned (OpenSpec.upto fnLevelJSONSpec)

/-- 'laws.FnLevelRoads', WHERE WHAT IT READS IS OF BULK AT MOST 1048576: true; the input reads as it did. -/
def fnLevelRoadsUptoRow : OpenClaim := { program := "ytahmahdfjiojjaadoor", sum := "63da3a7ccea7afc78d8e24cfc97ddcd523f8305d4a98c948867c2ced295e1999", func := "lib-fingerpost/laws.FnLevelRoads", spec := "fnLevelRoads", unfollowed := true, recurses := true, named := ["internal/strconv.uint64pow10", "math/bits.deBruijn32tab", "math/bits.deBruijn64tab", "unicode/utf8.first", "unicode/utf8.acceptRanges", "strconv.isPrint16", "strconv.isNotPrint16", "strconv.isPrint32", "strconv.isNotPrint32", "strconv.isGraphic"], apart := false, laid := [("math/bits.deBruijn32tab", laid_math_bits_deBruijn32tab), ("math/bits.deBruijn64tab", laid_math_bits_deBruijn64tab), ("internal/strconv.uint64pow10", laid_internal_strconv_uint64pow10), ("unicode/utf8.acceptRanges", laid_unicode_utf8_acceptRanges), ("strconv.isGraphic", laid_strconv_isGraphic), ("strconv.isNotPrint16", laid_strconv_isNotPrint16), ("strconv.isNotPrint32", laid_strconv_isNotPrint32), ("strconv.isPrint16", laid_strconv_isPrint16), ("strconv.isPrint32", laid_strconv_isPrint32), ("unicode/utf8.first", laid_unicode_utf8_first)], narrowed := true }
def FnLevelRoadsUptoSaid : Prop := fnLevelRoadsUptoRow.holds Tryd.pinned (OpenSpec.upto fnLevelRoadsSpec)

/-- 'laws.FnLevelJSONAll', WHERE WHAT IT READS IS OF BULK AT MOST 1048576: true; the input reads as it did. -/
def fnLevelJSONAllUptoRow : OpenClaim := { program := "ytahmahdfjiojjaadoor", sum := "63da3a7ccea7afc78d8e24cfc97ddcd523f8305d4a98c948867c2ced295e1999", func := "lib-fingerpost/laws.FnLevelJSONAll", spec := "fnLevelJSONAll", unfollowed := true, recurses := true, named := ["internal/strconv.uint64pow10", "math/bits.deBruijn32tab", "math/bits.deBruijn64tab", "unicode/utf8.first", "unicode/utf8.acceptRanges", "strconv.isPrint16", "strconv.isNotPrint16", "strconv.isPrint32", "strconv.isNotPrint32", "strconv.isGraphic"], apart := false, laid := [("math/bits.deBruijn32tab", laid_math_bits_deBruijn32tab), ("math/bits.deBruijn64tab", laid_math_bits_deBruijn64tab), ("internal/strconv.uint64pow10", laid_internal_strconv_uint64pow10), ("unicode/utf8.acceptRanges", laid_unicode_utf8_acceptRanges), ("strconv.isGraphic", laid_strconv_isGraphic), ("strconv.isNotPrint16", laid_strconv_isNotPrint16), ("strconv.isNotPrint32", laid_strconv_isNotPrint32), ("strconv.isPrint16", laid_strconv_isPrint16), ("strconv.isPrint32", laid_strconv_isPrint32), ("unicode/utf8.first", laid_unicode_utf8_first)], narrowed := true }
def FnLevelJSONAllUptoSaid : Prop := fnLevelJSONAllUptoRow.holds Tryd.pinned (OpenSpec.upto fnLevelJSONAllSpec)

/-- 'laws.FnLevelAppendAll', WHERE WHAT IT READS IS OF BULK AT MOST 1048576: true; the input reads as it did. -/
def fnLevelAppendAllUptoRow : OpenClaim := { program := "ytahmahdfjiojjaadoor", sum := "63da3a7ccea7afc78d8e24cfc97ddcd523f8305d4a98c948867c2ced295e1999", func := "lib-fingerpost/laws.FnLevelAppendAll", spec := "fnLevelAppendAll", unfollowed := true, recurses := true, named := ["internal/strconv.uint64pow10", "math/bits.deBruijn32tab", "math/bits.deBruijn64tab"], apart := false, laid := [("math/bits.deBruijn32tab", laid_math_bits_deBruijn32tab), ("math/bits.deBruijn64tab", laid_math_bits_deBruijn64tab), ("internal/strconv.uint64pow10", laid_internal_strconv_uint64pow10)], narrowed := true }
def FnLevelAppendAllUptoSaid : Prop := fnLevelAppendAllUptoRow.holds Tryd.pinned (OpenSpec.upto fnLevelAppendAllSpec)

/-- 'laws.FnLevelAppendTwice', WHERE WHAT IT READS IS OF BULK AT MOST 1048576: true; the input reads as it did. -/
def fnLevelAppendTwiceUptoRow : OpenClaim := { program := "ytahmahdfjiojjaadoor", sum := "63da3a7ccea7afc78d8e24cfc97ddcd523f8305d4a98c948867c2ced295e1999", func := "lib-fingerpost/laws.FnLevelAppendTwice", spec := "fnLevelAppendTwice", unfollowed := true, recurses := true, named := ["internal/strconv.uint64pow10", "math/bits.deBruijn32tab", "math/bits.deBruijn64tab"], apart := false, laid := [("math/bits.deBruijn32tab", laid_math_bits_deBruijn32tab), ("math/bits.deBruijn64tab", laid_math_bits_deBruijn64tab), ("internal/strconv.uint64pow10", laid_internal_strconv_uint64pow10)], narrowed := true }
def FnLevelAppendTwiceUptoSaid : Prop := fnLevelAppendTwiceUptoRow.holds Tryd.pinned (OpenSpec.upto fnLevelAppendTwiceSpec)

/-- 'laws.FnLevelAppend', WHERE WHAT IT READS IS OF BULK AT MOST 1048576: true; the input reads as it did. -/
def fnLevelAppendUptoRow : OpenClaim := { program := "ytahmahdfjiojjaadoor", sum := "63da3a7ccea7afc78d8e24cfc97ddcd523f8305d4a98c948867c2ced295e1999", func := "lib-fingerpost/laws.FnLevelAppend", spec := "fnLevelAppend", unfollowed := true, recurses := true, named := ["internal/strconv.uint64pow10", "math/bits.deBruijn32tab", "math/bits.deBruijn64tab"], apart := false, laid := [("math/bits.deBruijn32tab", laid_math_bits_deBruijn32tab), ("math/bits.deBruijn64tab", laid_math_bits_deBruijn64tab), ("internal/strconv.uint64pow10", laid_internal_strconv_uint64pow10)], narrowed := true }
def FnLevelAppendUptoSaid : Prop := fnLevelAppendUptoRow.holds Tryd.pinned (OpenSpec.upto fnLevelAppendSpec)

/-- 'laws.FnLevelTextAll', WHERE WHAT IT READS IS OF BULK AT MOST 1048576: true; the input reads as it did. -/
def fnLevelTextAllUptoRow : OpenClaim := { program := "ytahmahdfjiojjaadoor", sum := "63da3a7ccea7afc78d8e24cfc97ddcd523f8305d4a98c948867c2ced295e1999", func := "lib-fingerpost/laws.FnLevelTextAll", spec := "fnLevelTextAll", unfollowed := true, recurses := true, named := ["internal/strconv.uint64pow10", "math/bits.deBruijn32tab", "math/bits.deBruijn64tab"], apart := false, laid := [("math/bits.deBruijn32tab", laid_math_bits_deBruijn32tab), ("math/bits.deBruijn64tab", laid_math_bits_deBruijn64tab), ("internal/strconv.uint64pow10", laid_internal_strconv_uint64pow10)], narrowed := true }
def FnLevelTextAllUptoSaid : Prop := fnLevelTextAllUptoRow.holds Tryd.pinned (OpenSpec.upto fnLevelTextAllSpec)

/-- 'laws.FnLevelText', WHERE WHAT IT READS IS OF BULK AT MOST 1048576: true; the input reads as it did. -/
def fnLevelTextUptoRow : OpenClaim := { program := "ytahmahdfjiojjaadoor", sum := "63da3a7ccea7afc78d8e24cfc97ddcd523f8305d4a98c948867c2ced295e1999", func := "lib-fingerpost/laws.FnLevelText", spec := "fnLevelText", unfollowed := true, recurses := true, named := ["internal/strconv.uint64pow10", "math/bits.deBruijn32tab", "math/bits.deBruijn64tab"], apart := false, laid := [("math/bits.deBruijn32tab", laid_math_bits_deBruijn32tab), ("math/bits.deBruijn64tab", laid_math_bits_deBruijn64tab), ("internal/strconv.uint64pow10", laid_internal_strconv_uint64pow10)], narrowed := true }
def FnLevelTextUptoSaid : Prop := fnLevelTextUptoRow.holds Tryd.pinned (OpenSpec.upto fnLevelTextSpec)

/-- 'laws.FnLevelTextsApart', WHERE WHAT IT READS IS OF BULK AT MOST 1048576: true; the input reads as it did. -/
def fnLevelTextsApartUptoRow : OpenClaim := { program := "ytahmahdfjiojjaadoor", sum := "63da3a7ccea7afc78d8e24cfc97ddcd523f8305d4a98c948867c2ced295e1999", func := "lib-fingerpost/laws.FnLevelTextsApart", spec := "fnLevelTextsApart", unfollowed := true, recurses := true, named := ["internal/strconv.uint64pow10", "math/bits.deBruijn32tab", "math/bits.deBruijn64tab"], apart := false, laid := [("math/bits.deBruijn32tab", laid_math_bits_deBruijn32tab), ("math/bits.deBruijn64tab", laid_math_bits_deBruijn64tab), ("internal/strconv.uint64pow10", laid_internal_strconv_uint64pow10)], narrowed := true }
def FnLevelTextsApartUptoSaid : Prop := fnLevelTextsApartUptoRow.holds Tryd.pinned (OpenSpec.upto fnLevelTextsApartSpec)

/-- 'laws.FnLevelOfLevel', WHERE WHAT IT READS IS OF BULK AT MOST 1048576: true; the input reads as it did. -/
def fnLevelOfLevelUptoRow : OpenClaim := { program := "ytahmahdfjiojjaadoor", sum := "63da3a7ccea7afc78d8e24cfc97ddcd523f8305d4a98c948867c2ced295e1999", func := "lib-fingerpost/laws.FnLevelOfLevel", spec := "fnLevelOfLevel", unfollowed := true, recurses := true, named := ["internal/strconv.uint64pow10", "math/bits.deBruijn32tab", "math/bits.deBruijn64tab"], apart := false, laid := [("math/bits.deBruijn32tab", laid_math_bits_deBruijn32tab), ("math/bits.deBruijn64tab", laid_math_bits_deBruijn64tab), ("internal/strconv.uint64pow10", laid_internal_strconv_uint64pow10)], narrowed := true }
def FnLevelOfLevelUptoSaid : Prop := fnLevelOfLevelUptoRow.holds Tryd.pinned (OpenSpec.upto fnLevelOfLevelSpec)

/-- 'laws.FnLevelsApart', WHERE WHAT IT READS IS OF BULK AT MOST 1048576: true; the input reads as it did. -/
def fnLevelsApartUptoRow : OpenClaim := { program := "ytahmahdfjiojjaadoor", sum := "63da3a7ccea7afc78d8e24cfc97ddcd523f8305d4a98c948867c2ced295e1999", func := "lib-fingerpost/laws.FnLevelsApart", spec := "fnLevelsApart", unfollowed := true, recurses := true, named := ["internal/strconv.uint64pow10", "math/bits.deBruijn32tab", "math/bits.deBruijn64tab"], apart := false, laid := [("math/bits.deBruijn32tab", laid_math_bits_deBruijn32tab), ("math/bits.deBruijn64tab", laid_math_bits_deBruijn64tab), ("internal/strconv.uint64pow10", laid_internal_strconv_uint64pow10)], narrowed := true }
def FnLevelsApartUptoSaid : Prop := fnLevelsApartUptoRow.holds Tryd.pinned (OpenSpec.upto fnLevelsApartSpec)

end Rows
end Go.Proofs.YtahmahdfjiojjaaDoor
