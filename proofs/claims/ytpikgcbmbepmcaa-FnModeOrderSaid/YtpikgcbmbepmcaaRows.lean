/-
  No cell of these rows narrows 'for every input' (looked for: loops, veiled, ifaces, maps, wideKeys, modest, calm, conditions, laid).
  DERIVED. THE GIVEN ROWS OF THIS SEAT. 12 by the template 'for every input the law returns true; each argument reads behind the call as it read before'; 0 by the template 'total and deterministic' (their statements: YtpikgcbmbepmcaaTotals.lean).
  GIVEN WITH THE SEED: the statements are not yours to turn. If you find one false, say at which input.
  Laid BY PROGRAM, IN A SANDBOX (cutbox-rows.mjs): the forced cells as the released guide's own fill.sh prints them over the translation d18e2ca6947b55f8… (all of the seat's roots in one cut). By AI agents, Wed Nov 11 2026. No macro, syntax, notation, axiom, sorry.
-/
import Derived.Test.YtpikgcbmbepmcaaChecked
import GoSem.Claim
import GoSem.ClaimJoined
import GoSem.ClaimMapViews
import Derived.JoinedTies
import Derived.KernelRfl
namespace Go.Proofs.Ytpikgcbmbepmcaa
/- THE CELL 'sum', in the pinned program and in every row, IS THE sha256 OF THE DUMP (.gsa) THAT YtpikgcbmbepmcaaProg.lean LOADS. Nothing in Lean hashes anything: it is a label: what it is worth is what the hold of that sum in a sandbox is worth. -/
noncomputable def Try.pinned : Pinned := { name := "ytpikgcbmbepmcaa", sum := "d18e2ca6947b55f84ebad63ffa7baa947b45e33df732519c4381ac5463ad259a", checked := Try.checked }
namespace Rows
def none {H : Type} : Left H := { results := [], args := [] }

/-- 'laws.FnModeBit': WHATEVER THE INPUT: true; the input reads as it did. -/
def fnModeBitSpec : ChangeSpec := { name := "fnModeBit", fn := fun _ => fun
  | [d1, d2] => { results := [.lit (.bool true)], args := [d1, d2] }
  | _ => none }
def fnModeBitRow : OpenClaim := { program := "ytpikgcbmbepmcaa", sum := "d18e2ca6947b55f84ebad63ffa7baa947b45e33df732519c4381ac5463ad259a", func := "lib-fingerpost/laws.FnModeBit", spec := "fnModeBit", apart := false }
def FnModeBitSaid : Prop := fnModeBitRow.holds Try.pinned (OpenSpec.ofChange fnModeBitSpec)

/-- ITS FALSE NEIGHBOUR: 'it returns false'. Refute it at one input. -/
def fnModeBitWrong : ChangeSpec := { name := "fnModeBit", fn := fun _ => fun
  | [d1, d2] => { results := [.lit (.bool false)], args := [d1, d2] }
  | _ => none }
def FnModeBitWrongFalsely : Prop := fnModeBitRow.holds Try.pinned (OpenSpec.ofChange fnModeBitWrong)

/-- 'laws.FnModeLetters': WHATEVER THE INPUT: true; the input reads as it did. -/
def fnModeLettersSpec : ChangeSpec := { name := "fnModeLetters", fn := fun _ => fun
  | [d] => { results := [.lit (.bool true)], args := [d] }
  | _ => none }
def fnModeLettersRow : OpenClaim := { program := "ytpikgcbmbepmcaa", sum := "d18e2ca6947b55f84ebad63ffa7baa947b45e33df732519c4381ac5463ad259a", func := "lib-fingerpost/laws.FnModeLetters", spec := "fnModeLetters", apart := false }
def FnModeLettersSaid : Prop := fnModeLettersRow.holds Try.pinned (OpenSpec.ofChange fnModeLettersSpec)

/-- ITS FALSE NEIGHBOUR: 'it returns false'. Refute it at one input. -/
def fnModeLettersWrong : ChangeSpec := { name := "fnModeLetters", fn := fun _ => fun
  | [d] => { results := [.lit (.bool false)], args := [d] }
  | _ => none }
def FnModeLettersWrongFalsely : Prop := fnModeLettersRow.holds Try.pinned (OpenSpec.ofChange fnModeLettersWrong)

/-- 'laws.FnModeLong': WHATEVER THE INPUT: true; the input reads as it did. -/
def fnModeLongSpec : ChangeSpec := { name := "fnModeLong", fn := fun _ => fun
  | [d] => { results := [.lit (.bool true)], args := [d] }
  | _ => none }
def fnModeLongRow : OpenClaim := { program := "ytpikgcbmbepmcaa", sum := "d18e2ca6947b55f84ebad63ffa7baa947b45e33df732519c4381ac5463ad259a", func := "lib-fingerpost/laws.FnModeLong", spec := "fnModeLong", apart := false }
def FnModeLongSaid : Prop := fnModeLongRow.holds Try.pinned (OpenSpec.ofChange fnModeLongSpec)

/-- ITS FALSE NEIGHBOUR: 'it returns false'. Refute it at one input. -/
def fnModeLongWrong : ChangeSpec := { name := "fnModeLong", fn := fun _ => fun
  | [d] => { results := [.lit (.bool false)], args := [d] }
  | _ => none }
def FnModeLongWrongFalsely : Prop := fnModeLongRow.holds Try.pinned (OpenSpec.ofChange fnModeLongWrong)

/-- 'laws.FnModeOfString': WHATEVER THE INPUT: true; the input reads as it did. -/
def fnModeOfStringSpec : ChangeSpec := { name := "fnModeOfString", fn := fun _ => fun
  | [d] => { results := [.lit (.bool true)], args := [d] }
  | _ => none }
def fnModeOfStringRow : OpenClaim := { program := "ytpikgcbmbepmcaa", sum := "d18e2ca6947b55f84ebad63ffa7baa947b45e33df732519c4381ac5463ad259a", func := "lib-fingerpost/laws.FnModeOfString", spec := "fnModeOfString", apart := false }
def FnModeOfStringSaid : Prop := fnModeOfStringRow.holds Try.pinned (OpenSpec.ofChange fnModeOfStringSpec)

/-- ITS FALSE NEIGHBOUR: 'it returns false'. Refute it at one input. -/
def fnModeOfStringWrong : ChangeSpec := { name := "fnModeOfString", fn := fun _ => fun
  | [d] => { results := [.lit (.bool false)], args := [d] }
  | _ => none }
def FnModeOfStringWrongFalsely : Prop := fnModeOfStringRow.holds Try.pinned (OpenSpec.ofChange fnModeOfStringWrong)

/-- 'laws.FnModeOrder': WHATEVER THE INPUT: true; the input reads as it did. -/
def fnModeOrderSpec : ChangeSpec := { name := "fnModeOrder", fn := fun _ => fun
  | [d] => { results := [.lit (.bool true)], args := [d] }
  | _ => none }
def fnModeOrderRow : OpenClaim := { program := "ytpikgcbmbepmcaa", sum := "d18e2ca6947b55f84ebad63ffa7baa947b45e33df732519c4381ac5463ad259a", func := "lib-fingerpost/laws.FnModeOrder", spec := "fnModeOrder", apart := false }
def FnModeOrderSaid : Prop := fnModeOrderRow.holds Try.pinned (OpenSpec.ofChange fnModeOrderSpec)

/-- ITS FALSE NEIGHBOUR: 'it returns false'. Refute it at one input. -/
def fnModeOrderWrong : ChangeSpec := { name := "fnModeOrder", fn := fun _ => fun
  | [d] => { results := [.lit (.bool false)], args := [d] }
  | _ => none }
def FnModeOrderWrongFalsely : Prop := fnModeOrderRow.holds Try.pinned (OpenSpec.ofChange fnModeOrderWrong)

/-- 'laws.FnModeRightsMove': WHATEVER THE INPUT: true; the input reads as it did. -/
def fnModeRightsMoveSpec : ChangeSpec := { name := "fnModeRightsMove", fn := fun _ => fun
  | [d1, d2] => { results := [.lit (.bool true)], args := [d1, d2] }
  | _ => none }
def fnModeRightsMoveRow : OpenClaim := { program := "ytpikgcbmbepmcaa", sum := "d18e2ca6947b55f84ebad63ffa7baa947b45e33df732519c4381ac5463ad259a", func := "lib-fingerpost/laws.FnModeRightsMove", spec := "fnModeRightsMove", apart := false }
def FnModeRightsMoveSaid : Prop := fnModeRightsMoveRow.holds Try.pinned (OpenSpec.ofChange fnModeRightsMoveSpec)

/-- ITS FALSE NEIGHBOUR: 'it returns false'. Refute it at one input. -/
def fnModeRightsMoveWrong : ChangeSpec := { name := "fnModeRightsMove", fn := fun _ => fun
  | [d1, d2] => { results := [.lit (.bool false)], args := [d1, d2] }
  | _ => none }
def FnModeRightsMoveWrongFalsely : Prop := fnModeRightsMoveRow.holds Try.pinned (OpenSpec.ofChange fnModeRightsMoveWrong)

/-- 'laws.FnModeString': WHATEVER THE INPUT: true; the input reads as it did. -/
def fnModeStringSpec : ChangeSpec := { name := "fnModeString", fn := fun _ => fun
  | [d] => { results := [.lit (.bool true)], args := [d] }
  | _ => none }
def fnModeStringRow : OpenClaim := { program := "ytpikgcbmbepmcaa", sum := "d18e2ca6947b55f84ebad63ffa7baa947b45e33df732519c4381ac5463ad259a", func := "lib-fingerpost/laws.FnModeString", spec := "fnModeString", apart := false }
def FnModeStringSaid : Prop := fnModeStringRow.holds Try.pinned (OpenSpec.ofChange fnModeStringSpec)

/-- ITS FALSE NEIGHBOUR: 'it returns false'. Refute it at one input. -/
def fnModeStringWrong : ChangeSpec := { name := "fnModeString", fn := fun _ => fun
  | [d] => { results := [.lit (.bool false)], args := [d] }
  | _ => none }
def FnModeStringWrongFalsely : Prop := fnModeStringRow.holds Try.pinned (OpenSpec.ofChange fnModeStringWrong)

/-- 'laws.FnModeStringsApart': WHATEVER THE INPUT: true; the input reads as it did. -/
def fnModeStringsApartSpec : ChangeSpec := { name := "fnModeStringsApart", fn := fun _ => fun
  | [d1, d2] => { results := [.lit (.bool true)], args := [d1, d2] }
  | _ => none }
def fnModeStringsApartRow : OpenClaim := { program := "ytpikgcbmbepmcaa", sum := "d18e2ca6947b55f84ebad63ffa7baa947b45e33df732519c4381ac5463ad259a", func := "lib-fingerpost/laws.FnModeStringsApart", spec := "fnModeStringsApart", apart := false }
def FnModeStringsApartSaid : Prop := fnModeStringsApartRow.holds Try.pinned (OpenSpec.ofChange fnModeStringsApartSpec)

/-- ITS FALSE NEIGHBOUR: 'it returns false'. Refute it at one input. -/
def fnModeStringsApartWrong : ChangeSpec := { name := "fnModeStringsApart", fn := fun _ => fun
  | [d1, d2] => { results := [.lit (.bool false)], args := [d1, d2] }
  | _ => none }
def FnModeStringsApartWrongFalsely : Prop := fnModeStringsApartRow.holds Try.pinned (OpenSpec.ofChange fnModeStringsApartWrong)

/-- 'laws.FnModeUnion': WHATEVER THE INPUT: true; the input reads as it did. -/
def fnModeUnionSpec : ChangeSpec := { name := "fnModeUnion", fn := fun _ => fun
  | [d1, d2] => { results := [.lit (.bool true)], args := [d1, d2] }
  | _ => none }
def fnModeUnionRow : OpenClaim := { program := "ytpikgcbmbepmcaa", sum := "d18e2ca6947b55f84ebad63ffa7baa947b45e33df732519c4381ac5463ad259a", func := "lib-fingerpost/laws.FnModeUnion", spec := "fnModeUnion", apart := false }
def FnModeUnionSaid : Prop := fnModeUnionRow.holds Try.pinned (OpenSpec.ofChange fnModeUnionSpec)

/-- ITS FALSE NEIGHBOUR: 'it returns false'. Refute it at one input. -/
def fnModeUnionWrong : ChangeSpec := { name := "fnModeUnion", fn := fun _ => fun
  | [d1, d2] => { results := [.lit (.bool false)], args := [d1, d2] }
  | _ => none }
def FnModeUnionWrongFalsely : Prop := fnModeUnionRow.holds Try.pinned (OpenSpec.ofChange fnModeUnionWrong)

/-- 'laws.FnModeRights': WHATEVER THE INPUT: true; the input reads as it did. -/
def fnModeRightsSpec : ChangeSpec := { name := "fnModeRights", fn := fun _ => fun
  | [d] => { results := [.lit (.bool true)], args := [d] }
  | _ => none }
def fnModeRightsRow : OpenClaim := { program := "ytpikgcbmbepmcaa", sum := "d18e2ca6947b55f84ebad63ffa7baa947b45e33df732519c4381ac5463ad259a", func := "lib-fingerpost/laws.FnModeRights", spec := "fnModeRights", apart := false }
def FnModeRightsSaid : Prop := fnModeRightsRow.holds Try.pinned (OpenSpec.ofChange fnModeRightsSpec)

/-- ITS FALSE NEIGHBOUR: 'it returns false'. Refute it at one input. -/
def fnModeRightsWrong : ChangeSpec := { name := "fnModeRights", fn := fun _ => fun
  | [d] => { results := [.lit (.bool false)], args := [d] }
  | _ => none }
def FnModeRightsWrongFalsely : Prop := fnModeRightsRow.holds Try.pinned (OpenSpec.ofChange fnModeRightsWrong)

/-- 'laws.FnModeTypeLetters': WHATEVER THE INPUT: true; the input reads as it did. -/
def fnModeTypeLettersSpec : ChangeSpec := { name := "fnModeTypeLetters", fn := fun _ => fun
  | [d] => { results := [.lit (.bool true)], args := [d] }
  | _ => none }
def fnModeTypeLettersRow : OpenClaim := { program := "ytpikgcbmbepmcaa", sum := "d18e2ca6947b55f84ebad63ffa7baa947b45e33df732519c4381ac5463ad259a", func := "lib-fingerpost/laws.FnModeTypeLetters", spec := "fnModeTypeLetters", apart := false }
def FnModeTypeLettersSaid : Prop := fnModeTypeLettersRow.holds Try.pinned (OpenSpec.ofChange fnModeTypeLettersSpec)

/-- ITS FALSE NEIGHBOUR: 'it returns false'. Refute it at one input. -/
def fnModeTypeLettersWrong : ChangeSpec := { name := "fnModeTypeLetters", fn := fun _ => fun
  | [d] => { results := [.lit (.bool false)], args := [d] }
  | _ => none }
def FnModeTypeLettersWrongFalsely : Prop := fnModeTypeLettersRow.holds Try.pinned (OpenSpec.ofChange fnModeTypeLettersWrong)

/-- 'laws.FnModeDirByType': WHATEVER THE INPUT: true; the input reads as it did. -/
def fnModeDirByTypeSpec : ChangeSpec := { name := "fnModeDirByType", fn := fun _ => fun
  | [d] => { results := [.lit (.bool true)], args := [d] }
  | _ => none }
def fnModeDirByTypeRow : OpenClaim := { program := "ytpikgcbmbepmcaa", sum := "d18e2ca6947b55f84ebad63ffa7baa947b45e33df732519c4381ac5463ad259a", func := "lib-fingerpost/laws.FnModeDirByType", spec := "fnModeDirByType", apart := false }
def FnModeDirByTypeSaid : Prop := fnModeDirByTypeRow.holds Try.pinned (OpenSpec.ofChange fnModeDirByTypeSpec)

/-- ITS FALSE NEIGHBOUR: 'it returns false'. Refute it at one input. -/
def fnModeDirByTypeWrong : ChangeSpec := { name := "fnModeDirByType", fn := fun _ => fun
  | [d] => { results := [.lit (.bool false)], args := [d] }
  | _ => none }
def FnModeDirByTypeWrongFalsely : Prop := fnModeDirByTypeRow.holds Try.pinned (OpenSpec.ofChange fnModeDirByTypeWrong)

/- THE SECOND FORM. 'bulk': how many values and letters a reading holds, each counted each time it is reached (what is shared counts as often as it is met; a slice's spare places count too). A statement '..UptoSaid' is the law's where the arguments, and the package variables that the reading takes, are together of bulk at most 1048576: NARROWER than '..Said'. Prove '..Said' where nothing that the law and all that it calls make is longer than what came in: it says more and counts as full. Else prove '..UptoSaid'. A law counts once. -/
mutual
def uptoBulk {H : Type} : DataW H → Nat
  | .lit (.string bytes) => bytes.length + 1
  | .lit _ => 1
  | .nil => 1
  | .ptr d => uptoBulk d + 1
  | .slice elems spare => uptoBulkAll elems + uptoBulkAll spare + 1
  | .agg parts => uptoBulkAll parts + 1
  | .iface _ d => uptoBulk d + 1
  | .map entries => uptoBulkEntries entries + 1
  | .held _ => 1
def uptoBulkAll {H : Type} : List (DataW H) → Nat
  | [] => 0
  | d :: r => uptoBulk d + uptoBulkAll r
def uptoBulkEntries {H : Type} : List (Lit × DataW H) → Nat
  | [] => 0
  | x :: r => uptoBulkEntry x + uptoBulkEntries r
def uptoBulkEntry {H : Type} : Lit × DataW H → Nat
  | (.string bytes, d) => bytes.length + uptoBulk d + 1
  | (_, d) => uptoBulk d + 1
 end
def uptoSmall : (H : Type) → List (DataW H) → Bool := fun _ ds => decide (uptoBulkAll ds ≤ 1048576)
def OpenSpec.upto (s : _root_.Go.ChangeSpec) : _root_.Go.OpenSpec := { _root_.Go.OpenSpec.ofChange s with cond := some uptoSmall }

/-- 'laws.FnModeBit', WHERE WHAT IT READS IS OF BULK AT MOST 1048576: true; the input reads as it did. -/
def fnModeBitUptoRow : OpenClaim := { program := "ytpikgcbmbepmcaa", sum := "d18e2ca6947b55f84ebad63ffa7baa947b45e33df732519c4381ac5463ad259a", func := "lib-fingerpost/laws.FnModeBit", spec := "fnModeBit", apart := false, narrowed := true }
def FnModeBitUptoSaid : Prop := fnModeBitUptoRow.holds Try.pinned (OpenSpec.upto fnModeBitSpec)

/-- 'laws.FnModeLetters', WHERE WHAT IT READS IS OF BULK AT MOST 1048576: true; the input reads as it did. -/
def fnModeLettersUptoRow : OpenClaim := { program := "ytpikgcbmbepmcaa", sum := "d18e2ca6947b55f84ebad63ffa7baa947b45e33df732519c4381ac5463ad259a", func := "lib-fingerpost/laws.FnModeLetters", spec := "fnModeLetters", apart := false, narrowed := true }
def FnModeLettersUptoSaid : Prop := fnModeLettersUptoRow.holds Try.pinned (OpenSpec.upto fnModeLettersSpec)

/-- 'laws.FnModeLong', WHERE WHAT IT READS IS OF BULK AT MOST 1048576: true; the input reads as it did. -/
def fnModeLongUptoRow : OpenClaim := { program := "ytpikgcbmbepmcaa", sum := "d18e2ca6947b55f84ebad63ffa7baa947b45e33df732519c4381ac5463ad259a", func := "lib-fingerpost/laws.FnModeLong", spec := "fnModeLong", apart := false, narrowed := true }
def FnModeLongUptoSaid : Prop := fnModeLongUptoRow.holds Try.pinned (OpenSpec.upto fnModeLongSpec)

/-- 'laws.FnModeOfString', WHERE WHAT IT READS IS OF BULK AT MOST 1048576: true; the input reads as it did. -/
def fnModeOfStringUptoRow : OpenClaim := { program := "ytpikgcbmbepmcaa", sum := "d18e2ca6947b55f84ebad63ffa7baa947b45e33df732519c4381ac5463ad259a", func := "lib-fingerpost/laws.FnModeOfString", spec := "fnModeOfString", apart := false, narrowed := true }
def FnModeOfStringUptoSaid : Prop := fnModeOfStringUptoRow.holds Try.pinned (OpenSpec.upto fnModeOfStringSpec)

/-- 'laws.FnModeOrder', WHERE WHAT IT READS IS OF BULK AT MOST 1048576: true; the input reads as it did. -/
def fnModeOrderUptoRow : OpenClaim := { program := "ytpikgcbmbepmcaa", sum := "d18e2ca6947b55f84ebad63ffa7baa947b45e33df732519c4381ac5463ad259a", func := "lib-fingerpost/laws.FnModeOrder", spec := "fnModeOrder", apart := false, narrowed := true }
def FnModeOrderUptoSaid : Prop := fnModeOrderUptoRow.holds Try.pinned (OpenSpec.upto fnModeOrderSpec)

/-- 'laws.FnModeRightsMove', WHERE WHAT IT READS IS OF BULK AT MOST 1048576: true; the input reads as it did. -/
def fnModeRightsMoveUptoRow : OpenClaim := { program := "ytpikgcbmbepmcaa", sum := "d18e2ca6947b55f84ebad63ffa7baa947b45e33df732519c4381ac5463ad259a", func := "lib-fingerpost/laws.FnModeRightsMove", spec := "fnModeRightsMove", apart := false, narrowed := true }
def FnModeRightsMoveUptoSaid : Prop := fnModeRightsMoveUptoRow.holds Try.pinned (OpenSpec.upto fnModeRightsMoveSpec)

/-- 'laws.FnModeString', WHERE WHAT IT READS IS OF BULK AT MOST 1048576: true; the input reads as it did. -/
def fnModeStringUptoRow : OpenClaim := { program := "ytpikgcbmbepmcaa", sum := "d18e2ca6947b55f84ebad63ffa7baa947b45e33df732519c4381ac5463ad259a", func := "lib-fingerpost/laws.FnModeString", spec := "fnModeString", apart := false, narrowed := true }
def FnModeStringUptoSaid : Prop := fnModeStringUptoRow.holds Try.pinned (OpenSpec.upto fnModeStringSpec)

/-- 'laws.FnModeStringsApart', WHERE WHAT IT READS IS OF BULK AT MOST 1048576: true; the input reads as it did. -/
def fnModeStringsApartUptoRow : OpenClaim := { program := "ytpikgcbmbepmcaa", sum := "d18e2ca6947b55f84ebad63ffa7baa947b45e33df732519c4381ac5463ad259a", func := "lib-fingerpost/laws.FnModeStringsApart", spec := "fnModeStringsApart", apart := false, narrowed := true }
def FnModeStringsApartUptoSaid : Prop := fnModeStringsApartUptoRow.holds Try.pinned (OpenSpec.upto fnModeStringsApartSpec)

/-- 'laws.FnModeUnion', WHERE WHAT IT READS IS OF BULK AT MOST 1048576: true; the input reads as it did. -/
def fnModeUnionUptoRow : OpenClaim := { program := "ytpikgcbmbepmcaa", sum := "d18e2ca6947b55f84ebad63ffa7baa947b45e33df732519c4381ac5463ad259a", func := "lib-fingerpost/laws.FnModeUnion", spec := "fnModeUnion", apart := false, narrowed := true }
def FnModeUnionUptoSaid : Prop := fnModeUnionUptoRow.holds Try.pinned (OpenSpec.upto fnModeUnionSpec)

/-- 'laws.FnModeRights', WHERE WHAT IT READS IS OF BULK AT MOST 1048576: true; the input reads as it did. -/
def fnModeRightsUptoRow : OpenClaim := { program := "ytpikgcbmbepmcaa", sum := "d18e2ca6947b55f84ebad63ffa7baa947b45e33df732519c4381ac5463ad259a", func := "lib-fingerpost/laws.FnModeRights", spec := "fnModeRights", apart := false, narrowed := true }
def FnModeRightsUptoSaid : Prop := fnModeRightsUptoRow.holds Try.pinned (OpenSpec.upto fnModeRightsSpec)

/-- 'laws.FnModeTypeLetters', WHERE WHAT IT READS IS OF BULK AT MOST 1048576: true; the input reads as it did. -/
def fnModeTypeLettersUptoRow : OpenClaim := { program := "ytpikgcbmbepmcaa", sum := "d18e2ca6947b55f84ebad63ffa7baa947b45e33df732519c4381ac5463ad259a", func := "lib-fingerpost/laws.FnModeTypeLetters", spec := "fnModeTypeLetters", apart := false, narrowed := true }
def FnModeTypeLettersUptoSaid : Prop := fnModeTypeLettersUptoRow.holds Try.pinned (OpenSpec.upto fnModeTypeLettersSpec)

/-- 'laws.FnModeDirByType', WHERE WHAT IT READS IS OF BULK AT MOST 1048576: true; the input reads as it did. -/
def fnModeDirByTypeUptoRow : OpenClaim := { program := "ytpikgcbmbepmcaa", sum := "d18e2ca6947b55f84ebad63ffa7baa947b45e33df732519c4381ac5463ad259a", func := "lib-fingerpost/laws.FnModeDirByType", spec := "fnModeDirByType", apart := false, narrowed := true }
def FnModeDirByTypeUptoSaid : Prop := fnModeDirByTypeUptoRow.holds Try.pinned (OpenSpec.upto fnModeDirByTypeSpec)

end Rows
end Go.Proofs.Ytpikgcbmbepmcaa
