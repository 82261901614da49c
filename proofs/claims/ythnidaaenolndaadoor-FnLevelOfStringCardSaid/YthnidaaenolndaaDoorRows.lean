/-
  NARROWER THAN 'FOR EVERY INPUT', by the rows' own cells (each row's printed sentence says how): FnLevelBetween: laid · FnLevelFar: laid · FnLevelMirror: laid · FnLevelNames: laid · FnLevelOfString: laid · FnLevelString: laid · FnLevelStringAll: laid · FnLevelUpper: laid.
  DERIVED. THE GIVEN ROWS OF THIS SEAT. 8 by the template 'for every input the law returns true; each argument reads behind the call as it read before'; 0 by the template 'total and deterministic' (their statements: YthnidaaenolndaaDoorTotals.lean).
  GIVEN WITH THE SEED: the statements are not yours to turn. If you find one false, say at which input.
  Laid BY PROGRAM, IN A SANDBOX (cutbox-rows.mjs): the forced cells as the released guide's own fill.sh prints them over the translation 6127e0926b80dccd… (all of the seat's roots in one cut). By AI agents, Wed Nov 11 2026. No macro, syntax, notation, axiom, sorry.
-/
import Derived.Test.YthnidaaenolndaaDoorChecked
import GoSem.Claim
import GoSem.ClaimJoined
import GoSem.ClaimMapViews
import Derived.JoinedTies
import Derived.KernelRfl
namespace Go.Proofs.YthnidaaenolndaaDoor
/- THE CELL 'sum', in the pinned program and in every row, IS THE sha256 OF THE DUMP (.gsa) THAT YthnidaaenolndaaDoorProg.lean LOADS. Nothing in Lean hashes anything: it is a label: what it is worth is what the hold of that sum in a sandbox is worth. -/
noncomputable def Tryd.pinned : Pinned := { name := "ythnidaaenolndaadoor", sum := "6127e0926b80dccdf1bb0ccda74f97dfb8c7cdf31eb973efaef88872a066a94c", checked := Tryd.checked }
namespace Rows
def none {H : Type} : Left H := { results := [], args := [] }

/- WHAT THE LISTED PACKAGE-LEVEL VARIABLES READ AS WHEN THE CALL BEGINS. Each datum BY PROGRAM (the guide's laid-datum.mjs) off the statement by which the dump's own 'gosem.cut.vars' lays the variable. In a bare row this is a premise. The card (YthnidaaenolndaaDoorCards.lean) ties it to the program's text. -/
def laid_math_bits_deBruijn32tab {H : Type} : DataW H := .agg [.lit (.int .u8 0), .lit (.int .u8 1), .lit (.int .u8 28), .lit (.int .u8 2), .lit (.int .u8 29), .lit (.int .u8 14), .lit (.int .u8 24), .lit (.int .u8 3), .lit (.int .u8 30), .lit (.int .u8 22), .lit (.int .u8 20), .lit (.int .u8 15), .lit (.int .u8 25), .lit (.int .u8 17), .lit (.int .u8 4), .lit (.int .u8 8), .lit (.int .u8 31), .lit (.int .u8 27), .lit (.int .u8 13), .lit (.int .u8 23), .lit (.int .u8 21), .lit (.int .u8 19), .lit (.int .u8 16), .lit (.int .u8 7), .lit (.int .u8 26), .lit (.int .u8 12), .lit (.int .u8 18), .lit (.int .u8 6), .lit (.int .u8 11), .lit (.int .u8 5), .lit (.int .u8 10), .lit (.int .u8 9)]
def laid_math_bits_deBruijn64tab {H : Type} : DataW H := .agg [.lit (.int .u8 0), .lit (.int .u8 1), .lit (.int .u8 56), .lit (.int .u8 2), .lit (.int .u8 57), .lit (.int .u8 49), .lit (.int .u8 28), .lit (.int .u8 3), .lit (.int .u8 61), .lit (.int .u8 58), .lit (.int .u8 42), .lit (.int .u8 50), .lit (.int .u8 38), .lit (.int .u8 29), .lit (.int .u8 17), .lit (.int .u8 4), .lit (.int .u8 62), .lit (.int .u8 47), .lit (.int .u8 59), .lit (.int .u8 36), .lit (.int .u8 45), .lit (.int .u8 43), .lit (.int .u8 51), .lit (.int .u8 22), .lit (.int .u8 53), .lit (.int .u8 39), .lit (.int .u8 33), .lit (.int .u8 30), .lit (.int .u8 24), .lit (.int .u8 18), .lit (.int .u8 12), .lit (.int .u8 5), .lit (.int .u8 63), .lit (.int .u8 55), .lit (.int .u8 48), .lit (.int .u8 27), .lit (.int .u8 60), .lit (.int .u8 41), .lit (.int .u8 37), .lit (.int .u8 16), .lit (.int .u8 46), .lit (.int .u8 35), .lit (.int .u8 44), .lit (.int .u8 21), .lit (.int .u8 52), .lit (.int .u8 32), .lit (.int .u8 23), .lit (.int .u8 11), .lit (.int .u8 54), .lit (.int .u8 26), .lit (.int .u8 40), .lit (.int .u8 15), .lit (.int .u8 34), .lit (.int .u8 20), .lit (.int .u8 31), .lit (.int .u8 10), .lit (.int .u8 25), .lit (.int .u8 14), .lit (.int .u8 19), .lit (.int .u8 9), .lit (.int .u8 13), .lit (.int .u8 8), .lit (.int .u8 7), .lit (.int .u8 6)]
def laid_internal_strconv_uint64pow10 {H : Type} : DataW H := .agg [.lit (.int .u64 1), .lit (.int .u64 10), .lit (.int .u64 100), .lit (.int .u64 1000), .lit (.int .u64 10000), .lit (.int .u64 100000), .lit (.int .u64 1000000), .lit (.int .u64 10000000), .lit (.int .u64 100000000), .lit (.int .u64 1000000000), .lit (.int .u64 10000000000), .lit (.int .u64 100000000000), .lit (.int .u64 1000000000000), .lit (.int .u64 10000000000000), .lit (.int .u64 100000000000000), .lit (.int .u64 1000000000000000), .lit (.int .u64 10000000000000000), .lit (.int .u64 100000000000000000), .lit (.int .u64 1000000000000000000), .lit (.int .u64 10000000000000000000)]

/-- 'laws.FnLevelBetween': WHATEVER THE INPUT: true; the input reads as it did. -/
def fnLevelBetweenSpec : ChangeSpec := { name := "fnLevelBetween", fn := fun _ => fun
  | [d] => { results := [.lit (.bool true)], args := [d] }
  | _ => none }
def fnLevelBetweenRow : OpenClaim := { program := "ythnidaaenolndaadoor", sum := "6127e0926b80dccdf1bb0ccda74f97dfb8c7cdf31eb973efaef88872a066a94c", func := "lib-fingerpost/laws.FnLevelBetween", spec := "fnLevelBetween", unfollowed := true, recurses := true, named := ["internal/strconv.uint64pow10", "math/bits.deBruijn32tab", "math/bits.deBruijn64tab"], apart := false, laid := [("math/bits.deBruijn32tab", laid_math_bits_deBruijn32tab), ("math/bits.deBruijn64tab", laid_math_bits_deBruijn64tab), ("internal/strconv.uint64pow10", laid_internal_strconv_uint64pow10)] }
def FnLevelBetweenSaid : Prop := fnLevelBetweenRow.holds Tryd.pinned (OpenSpec.ofChange fnLevelBetweenSpec)

/-- ITS FALSE NEIGHBOUR: 'it returns false'. Refute it at one input. -/
def fnLevelBetweenWrong : ChangeSpec := { name := "fnLevelBetween", fn := fun _ => fun
  | [d] => { results := [.lit (.bool false)], args := [d] }
  | _ => none }
def FnLevelBetweenWrongFalsely : Prop := fnLevelBetweenRow.holds Tryd.pinned (OpenSpec.ofChange fnLevelBetweenWrong)

/-- 'laws.FnLevelFar': WHATEVER THE INPUT: true; the input reads as it did. -/
def fnLevelFarSpec : ChangeSpec := { name := "fnLevelFar", fn := fun _ => fun
  | [d] => { results := [.lit (.bool true)], args := [d] }
  | _ => none }
def fnLevelFarRow : OpenClaim := { program := "ythnidaaenolndaadoor", sum := "6127e0926b80dccdf1bb0ccda74f97dfb8c7cdf31eb973efaef88872a066a94c", func := "lib-fingerpost/laws.FnLevelFar", spec := "fnLevelFar", unfollowed := true, recurses := true, named := ["internal/strconv.uint64pow10", "math/bits.deBruijn32tab", "math/bits.deBruijn64tab"], apart := false, laid := [("math/bits.deBruijn32tab", laid_math_bits_deBruijn32tab), ("math/bits.deBruijn64tab", laid_math_bits_deBruijn64tab), ("internal/strconv.uint64pow10", laid_internal_strconv_uint64pow10)] }
def FnLevelFarSaid : Prop := fnLevelFarRow.holds Tryd.pinned (OpenSpec.ofChange fnLevelFarSpec)

/-- ITS FALSE NEIGHBOUR: 'it returns false'. Refute it at one input. -/
def fnLevelFarWrong : ChangeSpec := { name := "fnLevelFar", fn := fun _ => fun
  | [d] => { results := [.lit (.bool false)], args := [d] }
  | _ => none }
def FnLevelFarWrongFalsely : Prop := fnLevelFarRow.holds Tryd.pinned (OpenSpec.ofChange fnLevelFarWrong)

/-- 'laws.FnLevelMirror': WHATEVER THE INPUT: true; the input reads as it did. -/
def fnLevelMirrorSpec : ChangeSpec := { name := "fnLevelMirror", fn := fun _ => fun
  | [d] => { results := [.lit (.bool true)], args := [d] }
  | _ => none }
def fnLevelMirrorRow : OpenClaim := { program := "ythnidaaenolndaadoor", sum := "6127e0926b80dccdf1bb0ccda74f97dfb8c7cdf31eb973efaef88872a066a94c", func := "lib-fingerpost/laws.FnLevelMirror", spec := "fnLevelMirror", unfollowed := true, recurses := true, named := ["internal/strconv.uint64pow10", "math/bits.deBruijn32tab", "math/bits.deBruijn64tab"], apart := false, laid := [("math/bits.deBruijn32tab", laid_math_bits_deBruijn32tab), ("math/bits.deBruijn64tab", laid_math_bits_deBruijn64tab), ("internal/strconv.uint64pow10", laid_internal_strconv_uint64pow10)] }
def FnLevelMirrorSaid : Prop := fnLevelMirrorRow.holds Tryd.pinned (OpenSpec.ofChange fnLevelMirrorSpec)

/-- ITS FALSE NEIGHBOUR: 'it returns false'. Refute it at one input. -/
def fnLevelMirrorWrong : ChangeSpec := { name := "fnLevelMirror", fn := fun _ => fun
  | [d] => { results := [.lit (.bool false)], args := [d] }
  | _ => none }
def FnLevelMirrorWrongFalsely : Prop := fnLevelMirrorRow.holds Tryd.pinned (OpenSpec.ofChange fnLevelMirrorWrong)

/-- 'laws.FnLevelNames': WHATEVER THE INPUT: true; the input reads as it did. -/
def fnLevelNamesSpec : ChangeSpec := { name := "fnLevelNames", fn := fun _ => fun
  | [d] => { results := [.lit (.bool true)], args := [d] }
  | _ => none }
def fnLevelNamesRow : OpenClaim := { program := "ythnidaaenolndaadoor", sum := "6127e0926b80dccdf1bb0ccda74f97dfb8c7cdf31eb973efaef88872a066a94c", func := "lib-fingerpost/laws.FnLevelNames", spec := "fnLevelNames", unfollowed := true, recurses := true, named := ["internal/strconv.uint64pow10", "math/bits.deBruijn32tab", "math/bits.deBruijn64tab"], apart := false, laid := [("math/bits.deBruijn32tab", laid_math_bits_deBruijn32tab), ("math/bits.deBruijn64tab", laid_math_bits_deBruijn64tab), ("internal/strconv.uint64pow10", laid_internal_strconv_uint64pow10)] }
def FnLevelNamesSaid : Prop := fnLevelNamesRow.holds Tryd.pinned (OpenSpec.ofChange fnLevelNamesSpec)

/-- ITS FALSE NEIGHBOUR: 'it returns false'. Refute it at one input. -/
def fnLevelNamesWrong : ChangeSpec := { name := "fnLevelNames", fn := fun _ => fun
  | [d] => { results := [.lit (.bool false)], args := [d] }
  | _ => none }
def FnLevelNamesWrongFalsely : Prop := fnLevelNamesRow.holds Tryd.pinned (OpenSpec.ofChange fnLevelNamesWrong)

/-- 'laws.FnLevelOfString': WHATEVER THE INPUT: true; the input reads as it did. -/
def fnLevelOfStringSpec : ChangeSpec := { name := "fnLevelOfString", fn := fun _ => fun
  | [d] => { results := [.lit (.bool true)], args := [d] }
  | _ => none }
def fnLevelOfStringRow : OpenClaim := { program := "ythnidaaenolndaadoor", sum := "6127e0926b80dccdf1bb0ccda74f97dfb8c7cdf31eb973efaef88872a066a94c", func := "lib-fingerpost/laws.FnLevelOfString", spec := "fnLevelOfString", unfollowed := true, recurses := true, named := ["internal/strconv.uint64pow10", "math/bits.deBruijn32tab", "math/bits.deBruijn64tab"], apart := false, laid := [("math/bits.deBruijn32tab", laid_math_bits_deBruijn32tab), ("math/bits.deBruijn64tab", laid_math_bits_deBruijn64tab), ("internal/strconv.uint64pow10", laid_internal_strconv_uint64pow10)] }
def FnLevelOfStringSaid : Prop := fnLevelOfStringRow.holds Tryd.pinned (OpenSpec.ofChange fnLevelOfStringSpec)

/-- ITS FALSE NEIGHBOUR: 'it returns false'. Refute it at one input. -/
def fnLevelOfStringWrong : ChangeSpec := { name := "fnLevelOfString", fn := fun _ => fun
  | [d] => { results := [.lit (.bool false)], args := [d] }
  | _ => none }
def FnLevelOfStringWrongFalsely : Prop := fnLevelOfStringRow.holds Tryd.pinned (OpenSpec.ofChange fnLevelOfStringWrong)

/-- 'laws.FnLevelString': WHATEVER THE INPUT: true; the input reads as it did. -/
def fnLevelStringSpec : ChangeSpec := { name := "fnLevelString", fn := fun _ => fun
  | [d] => { results := [.lit (.bool true)], args := [d] }
  | _ => none }
def fnLevelStringRow : OpenClaim := { program := "ythnidaaenolndaadoor", sum := "6127e0926b80dccdf1bb0ccda74f97dfb8c7cdf31eb973efaef88872a066a94c", func := "lib-fingerpost/laws.FnLevelString", spec := "fnLevelString", unfollowed := true, recurses := true, named := ["internal/strconv.uint64pow10", "math/bits.deBruijn32tab", "math/bits.deBruijn64tab"], apart := false, laid := [("math/bits.deBruijn32tab", laid_math_bits_deBruijn32tab), ("math/bits.deBruijn64tab", laid_math_bits_deBruijn64tab), ("internal/strconv.uint64pow10", laid_internal_strconv_uint64pow10)] }
def FnLevelStringSaid : Prop := fnLevelStringRow.holds Tryd.pinned (OpenSpec.ofChange fnLevelStringSpec)

/-- ITS FALSE NEIGHBOUR: 'it returns false'. Refute it at one input. -/
def fnLevelStringWrong : ChangeSpec := { name := "fnLevelString", fn := fun _ => fun
  | [d] => { results := [.lit (.bool false)], args := [d] }
  | _ => none }
def FnLevelStringWrongFalsely : Prop := fnLevelStringRow.holds Tryd.pinned (OpenSpec.ofChange fnLevelStringWrong)

/-- 'laws.FnLevelStringAll': WHATEVER THE INPUT: true; the input reads as it did. -/
def fnLevelStringAllSpec : ChangeSpec := { name := "fnLevelStringAll", fn := fun _ => fun
  | [d] => { results := [.lit (.bool true)], args := [d] }
  | _ => none }
def fnLevelStringAllRow : OpenClaim := { program := "ythnidaaenolndaadoor", sum := "6127e0926b80dccdf1bb0ccda74f97dfb8c7cdf31eb973efaef88872a066a94c", func := "lib-fingerpost/laws.FnLevelStringAll", spec := "fnLevelStringAll", unfollowed := true, recurses := true, named := ["internal/strconv.uint64pow10", "math/bits.deBruijn32tab", "math/bits.deBruijn64tab"], apart := false, laid := [("math/bits.deBruijn32tab", laid_math_bits_deBruijn32tab), ("math/bits.deBruijn64tab", laid_math_bits_deBruijn64tab), ("internal/strconv.uint64pow10", laid_internal_strconv_uint64pow10)] }
def FnLevelStringAllSaid : Prop := fnLevelStringAllRow.holds Tryd.pinned (OpenSpec.ofChange fnLevelStringAllSpec)

/-- ITS FALSE NEIGHBOUR: 'it returns false'. Refute it at one input. -/
def fnLevelStringAllWrong : ChangeSpec := { name := "fnLevelStringAll", fn := fun _ => fun
  | [d] => { results := [.lit (.bool false)], args := [d] }
  | _ => none }
def FnLevelStringAllWrongFalsely : Prop := fnLevelStringAllRow.holds Tryd.pinned (OpenSpec.ofChange fnLevelStringAllWrong)

/-- 'laws.FnLevelUpper': WHATEVER THE INPUT: true; the input reads as it did. -/
def fnLevelUpperSpec : ChangeSpec := { name := "fnLevelUpper", fn := fun _ => fun
  | [d] => { results := [.lit (.bool true)], args := [d] }
  | _ => none }
def fnLevelUpperRow : OpenClaim := { program := "ythnidaaenolndaadoor", sum := "6127e0926b80dccdf1bb0ccda74f97dfb8c7cdf31eb973efaef88872a066a94c", func := "lib-fingerpost/laws.FnLevelUpper", spec := "fnLevelUpper", unfollowed := true, recurses := true, named := ["internal/strconv.uint64pow10", "math/bits.deBruijn32tab", "math/bits.deBruijn64tab"], apart := false, laid := [("math/bits.deBruijn32tab", laid_math_bits_deBruijn32tab), ("math/bits.deBruijn64tab", laid_math_bits_deBruijn64tab), ("internal/strconv.uint64pow10", laid_internal_strconv_uint64pow10)] }
def FnLevelUpperSaid : Prop := fnLevelUpperRow.holds Tryd.pinned (OpenSpec.ofChange fnLevelUpperSpec)

/-- ITS FALSE NEIGHBOUR: 'it returns false'. Refute it at one input. -/
def fnLevelUpperWrong : ChangeSpec := { name := "fnLevelUpper", fn := fun _ => fun
  | [d] => { results := [.lit (.bool false)], args := [d] }
  | _ => none }
def FnLevelUpperWrongFalsely : Prop := fnLevelUpperRow.holds Tryd.pinned (OpenSpec.ofChange fnLevelUpperWrong)

/- THE SECOND FORM. 'bulk': how many values and letters a reading holds, each counted each time it is reached (what is shared counts as often as it is met; a slice's spare places count too). A statement '..UptoSaid' is the law's where the arguments, and the package variables that the reading takes, are together of bulk at most 1048576: NARROWER than '..Said'. Prove '..Said' where nothing that the law and all that it calls make is longer than what came in: it says more and counts as full. Else prove '..UptoSaid'. A law counts once. -/
mutual
def uptoBulk {H : Type} : DataW H → Nat
  | .lit (.string bytes) => bytes.length + 1
  | .lit _ => 1
  | .nil => 1
  | .ptr d => uptoBulk d + 1
  | .slice elems spare => uptoBulkAll elems + uptoBulkAll spare + 1
  | .agg parts => uptoBulkAll parts + 1
  | .iface _ d => uptoBulk d + 1
  | .map entries => uptoBulkEntries entries + 1
  | .held _ => 1
def uptoBulkAll {H : Type} : List (DataW H) → Nat
  | [] => 0
  | d :: r => uptoBulk d + uptoBulkAll r
def uptoBulkEntries {H : Type} : List (Lit × DataW H) → Nat
  | [] => 0
  | x :: r => uptoBulkEntry x + uptoBulkEntries r
def uptoBulkEntry {H : Type} : Lit × DataW H → Nat
  | (.string bytes, d) => bytes.length + uptoBulk d + 1
  | (_, d) => uptoBulk d + 1
 end
def uptoSmall : (H : Type) → List (DataW H) → Bool := fun _ ds => decide (uptoBulkAll ds ≤ 1048576)
def OpenSpec.upto (s : _root_.Go.ChangeSpec) : _root_.Go.OpenSpec := { _root_.Go.OpenSpec.ofChange s with cond := some uptoSmall }

/-- 'laws.FnLevelBetween', WHERE WHAT IT READS IS OF BULK AT MOST 1048576: true; the input reads as it did. -/
def fnLevelBetweenUptoRow : OpenClaim := { program := "ythnidaaenolndaadoor", sum := "6127e0926b80dccdf1bb0ccda74f97dfb8c7cdf31eb973efaef88872a066a94c", func := "lib-fingerpost/laws.FnLevelBetween", spec := "fnLevelBetween", unfollowed := true, recurses := true, named := ["internal/strconv.uint64pow10", "math/bits.deBruijn32tab", "math/bits.deBruijn64tab"], apart := false, laid := [("math/bits.deBruijn32tab", laid_math_bits_deBruijn32tab), ("math/bits.deBruijn64tab", laid_math_bits_deBruijn64tab), ("internal/strconv.uint64pow10", laid_internal_strconv_uint64pow10)], narrowed := true }
def FnLevelBetweenUptoSaid : Prop := fnLevelBetweenUptoRow.holds Tryd.pinned (OpenSpec.upto fnLevelBetweenSpec)

/-- 'laws.FnLevelFar', WHERE WHAT IT READS IS OF BULK AT MOST 1048576: true; the input reads as it did. -/
def fnLevelFarUptoRow : OpenClaim := { program := "ythnidaaenolndaadoor", sum := "6127e0926b80dccdf1bb0ccda74f97dfb8c7cdf31eb973efaef88872a066a94c", func := "lib-fingerpost/laws.FnLevelFar", spec := "fnLevelFar", unfollowed := true, recurses := true, named := ["internal/strconv.uint64pow10", "math/bits.deBruijn32tab", "math/bits.deBruijn64tab"], apart := false, laid := [("math/bits.deBruijn32tab", laid_math_bits_deBruijn32tab), ("math/bits.deBruijn64tab", laid_math_bits_deBruijn64tab), ("internal/strconv.uint64pow10", laid_internal_strconv_uint64pow10)], narrowed := true }
def FnLevelFarUptoSaid : Prop := fnLevelFarUptoRow.holds Tryd.pinned (OpenSpec.upto fnLevelFarSpec)

/-- 'laws.FnLevelMirror', WHERE WHAT IT READS IS OF BULK AT MOST 1048576: true; the input reads as it did. -/
def fnLevelMirrorUptoRow : OpenClaim := { program := "ythnidaaenolndaadoor", sum := "6127e0926b80dccdf1bb0ccda74f97dfb8c7cdf31eb973efaef88872a066a94c", func := "lib-fingerpost/laws.FnLevelMirror", spec := "fnLevelMirror", unfollowed := true, recurses := true, named := ["internal/strconv.uint64pow10", "math/bits.deBruijn32tab", "math/bits.deBruijn64tab"], apart := false, laid := [("math/bits.deBruijn32tab", laid_math_bits_deBruijn32tab), ("math/bits.deBruijn64tab", laid_math_bits_deBruijn64tab), ("internal/strconv.uint64pow10", laid_internal_strconv_uint64pow10)], narrowed := true }
def FnLevelMirrorUptoSaid : Prop := fnLevelMirrorUptoRow.holds Tryd.pinned (OpenSpec.upto fnLevelMirrorSpec)

/-- 'laws.FnLevelNames', WHERE WHAT IT READS IS OF BULK AT MOST 1048576: true; the input reads as it did. -/
def fnLevelNamesUptoRow : OpenClaim := { program := "ythnidaaenolndaadoor", sum := "6127e0926b80dccdf1bb0ccda74f97dfb8c7cdf31eb973efaef88872a066a94c", func := "lib-fingerpost/laws.FnLevelNames", spec := "fnLevelNames", unfollowed := true, recurses := true, named := ["internal/strconv.uint64pow10", "math/bits.deBruijn32tab", "math/bits.deBruijn64tab"], apart := false, laid := [("math/bits.deBruijn32tab", laid_math_bits_deBruijn32tab), ("math/bits.deBruijn64tab", laid_math_bits_deBruijn64tab), ("internal/strconv.uint64pow10", laid_internal_strconv_uint64pow10)], narrowed := true }
def FnLevelNamesUptoSaid : Prop := fnLevelNamesUptoRow.holds Tryd.pinned (OpenSpec.upto fnLevelNamesSpec)

/-- 'laws.FnLevelOfString', WHERE WHAT IT READS IS OF BULK AT MOST 1048576: true; the input reads as it did. -/
def fnLevelOfStringUptoRow : OpenClaim := { program := "ythnidaaenolndaadoor", sum := "6127e0926b80dccdf1bb0ccda74f97dfb8c7cdf31eb973efaef88872a066a94c", func := "lib-fingerpost/laws.FnLevelOfString", spec := "fnLevelOfString", unfollowed := true, recurses := true, named := ["internal/strconv.uint64pow10", "math/bits.deBruijn32tab", "math/bits.deBruijn64tab"], apart := false, laid := [("math/bits.deBruijn32tab", laid_math_bits_deBruijn32tab), ("math/bits.deBruijn64tab", laid_math_bits_deBruijn64tab), ("internal/strconv.uint64pow10", laid_internal_strconv_uint64pow10)], narrowed := true }
def FnLevelOfStringUptoSaid : Prop := fnLevelOfStringUptoRow.holds Tryd.pinned (OpenSpec.upto fnLevelOfStringSpec)

/-- 'laws.FnLevelString', WHERE WHAT IT READS IS OF BULK AT MOST 1048576: true; the input reads as it did. -/
def fnLevelStringUptoRow : OpenClaim := { program := "ythnidaaenolndaadoor", sum := "6127e0926b80dccdf1bb0ccda74f97dfb8c7cdf31eb973efaef88872a066a94c", func := "lib-fingerpost/laws.FnLevelString", spec := "fnLevelString", unfollowed := true, recurses := true, named := ["internal/strconv.uint64pow10", "math/bits.deBruijn32tab", "math/bits.deBruijn64tab"], apart := false, laid := [("math/bits.deBruijn32tab", laid_math_bits_deBruijn32tab), ("math/bits.deBruijn64tab", laid_math_bits_deBruijn64tab), ("internal/strconv.uint64pow10", laid_internal_strconv_uint64pow10)], narrowed := true }
def FnLevelStringUptoSaid : Prop := fnLevelStringUptoRow.holds Tryd.pinned (OpenSpec.upto fnLevelStringSpec)

/-- 'laws.FnLevelStringAll', WHERE WHAT IT READS IS OF BULK AT MOST 1048576: true; the input reads as it did. -/
def fnLevelStringAllUptoRow : OpenClaim := { program := "ythnidaaenolndaadoor", sum := "6127e0926b80dccdf1bb0ccda74f97dfb8c7cdf31eb973efaef88872a066a94c", func := "lib-fingerpost/laws.FnLevelStringAll", spec := "fnLevelStringAll", unfollowed := true, recurses := true, named := ["internal/strconv.uint64pow10", "math/bits.deBruijn32tab", "math/bits.deBruijn64tab"], apart := false, laid := [("math/bits.deBruijn32tab", laid_math_bits_deBruijn32tab), ("math/bits.deBruijn64tab", laid_math_bits_deBruijn64tab), ("internal/strconv.uint64pow10", laid_internal_strconv_uint64pow10)], narrowed := true }
def FnLevelStringAllUptoSaid : Prop := fnLevelStringAllUptoRow.holds Tryd.pinned (OpenSpec.upto fnLevelStringAllSpec)

/-- 'laws.FnLevelUpper', WHERE WHAT IT READS IS OF BULK AT MOST 1048576: true; the input reads as it did. -/
def fnLevelUpperUptoRow : OpenClaim := { program := "ythnidaaenolndaadoor", sum := "6127e0926b80dccdf1bb0ccda74f97dfb8c7cdf31eb973efaef88872a066a94c", func := "lib-fingerpost/laws.FnLevelUpper", spec := "fnLevelUpper", unfollowed := true, recurses := true, named := ["internal/strconv.uint64pow10", "math/bits.deBruijn32tab", "math/bits.deBruijn64tab"], apart := false, laid := [("math/bits.deBruijn32tab", laid_math_bits_deBruijn32tab), ("math/bits.deBruijn64tab", laid_math_bits_deBruijn64tab), ("internal/strconv.uint64pow10", laid_internal_strconv_uint64pow10)], narrowed := true }
def FnLevelUpperUptoSaid : Prop := fnLevelUpperUptoRow.holds Tryd.pinned (OpenSpec.upto fnLevelUpperSpec)

end Rows
end Go.Proofs.YthnidaaenolndaaDoor
