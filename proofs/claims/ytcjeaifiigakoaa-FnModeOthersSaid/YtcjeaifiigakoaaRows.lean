/-
  No cell of these rows narrows 'for every input' (looked for: loops, veiled, ifaces, maps, wideKeys, modest, calm, conditions, laid).
  DERIVED. THE GIVEN ROWS OF THIS SEAT. 10 by the template 'for every input the law returns true; each argument reads behind the call as it read before'; 0 by the template 'total and deterministic' (their statements: YtcjeaifiigakoaaTotals.lean).
  GIVEN WITH THE SEED: the statements are not yours to turn. If you find one false, say at which input.
  Laid BY PROGRAM, IN A SANDBOX (cutbox-rows.mjs): the forced cells as the released guide's own fill.sh prints them over the translation bb6b0c520689ef01… (all of the seat's roots in one cut). By AI agents, Wed Nov 11 2026. No macro, syntax, notation, axiom, sorry.
-/
import Derived.Test.YtcjeaifiigakoaaChecked
import GoSem.Claim
import GoSem.ClaimJoined
import GoSem.ClaimMapViews
import Derived.JoinedTies
import Derived.KernelRfl
namespace Go.Proofs.Ytcjeaifiigakoaa
/- THE CELL 'sum', in the pinned program and in every row, IS THE sha256 OF THE DUMP (.gsa) THAT YtcjeaifiigakoaaProg.lean LOADS. Nothing in Lean hashes anything: it is a label: what it is worth is what the hold of that sum in a sandbox is worth. -/
noncomputable def Try.pinned : Pinned := { name := "ytcjeaifiigakoaa", sum := "bb6b0c520689ef0133f2b90874de1930c2d3d5474a48e7e3776a5aaf6b5ce5fa", checked := Try.checked }
namespace Rows
def none {H : Type} : Left H := { results := [], args := [] }

/-- 'laws.FnLevelLevel': WHATEVER THE INPUT: true; the input reads as it did. -/
def fnLevelLevelSpec : ChangeSpec := { name := "fnLevelLevel", fn := fun _ => fun
  | [d] => { results := [.lit (.bool true)], args := [d] }
  | _ => none }
def fnLevelLevelRow : OpenClaim := { program := "ytcjeaifiigakoaa", sum := "bb6b0c520689ef0133f2b90874de1930c2d3d5474a48e7e3776a5aaf6b5ce5fa", func := "lib-fingerpost/laws.FnLevelLevel", spec := "fnLevelLevel", apart := false }
def FnLevelLevelSaid : Prop := fnLevelLevelRow.holds Try.pinned (OpenSpec.ofChange fnLevelLevelSpec)

/-- ITS FALSE NEIGHBOUR: 'it returns false'. Refute it at one input. -/
def fnLevelLevelWrong : ChangeSpec := { name := "fnLevelLevel", fn := fun _ => fun
  | [d] => { results := [.lit (.bool false)], args := [d] }
  | _ => none }
def FnLevelLevelWrongFalsely : Prop := fnLevelLevelRow.holds Try.pinned (OpenSpec.ofChange fnLevelLevelWrong)

/-- 'laws.FnModeIsDir': WHATEVER THE INPUT: true; the input reads as it did. -/
def fnModeIsDirSpec : ChangeSpec := { name := "fnModeIsDir", fn := fun _ => fun
  | [d] => { results := [.lit (.bool true)], args := [d] }
  | _ => none }
def fnModeIsDirRow : OpenClaim := { program := "ytcjeaifiigakoaa", sum := "bb6b0c520689ef0133f2b90874de1930c2d3d5474a48e7e3776a5aaf6b5ce5fa", func := "lib-fingerpost/laws.FnModeIsDir", spec := "fnModeIsDir", apart := false }
def FnModeIsDirSaid : Prop := fnModeIsDirRow.holds Try.pinned (OpenSpec.ofChange fnModeIsDirSpec)

/-- ITS FALSE NEIGHBOUR: 'it returns false'. Refute it at one input. -/
def fnModeIsDirWrong : ChangeSpec := { name := "fnModeIsDir", fn := fun _ => fun
  | [d] => { results := [.lit (.bool false)], args := [d] }
  | _ => none }
def FnModeIsDirWrongFalsely : Prop := fnModeIsDirRow.holds Try.pinned (OpenSpec.ofChange fnModeIsDirWrong)

/-- 'laws.FnModeIsRegular': WHATEVER THE INPUT: true; the input reads as it did. -/
def fnModeIsRegularSpec : ChangeSpec := { name := "fnModeIsRegular", fn := fun _ => fun
  | [d] => { results := [.lit (.bool true)], args := [d] }
  | _ => none }
def fnModeIsRegularRow : OpenClaim := { program := "ytcjeaifiigakoaa", sum := "bb6b0c520689ef0133f2b90874de1930c2d3d5474a48e7e3776a5aaf6b5ce5fa", func := "lib-fingerpost/laws.FnModeIsRegular", spec := "fnModeIsRegular", apart := false }
def FnModeIsRegularSaid : Prop := fnModeIsRegularRow.holds Try.pinned (OpenSpec.ofChange fnModeIsRegularSpec)

/-- ITS FALSE NEIGHBOUR: 'it returns false'. Refute it at one input. -/
def fnModeIsRegularWrong : ChangeSpec := { name := "fnModeIsRegular", fn := fun _ => fun
  | [d] => { results := [.lit (.bool false)], args := [d] }
  | _ => none }
def FnModeIsRegularWrongFalsely : Prop := fnModeIsRegularRow.holds Try.pinned (OpenSpec.ofChange fnModeIsRegularWrong)

/-- 'laws.FnModePerm': WHATEVER THE INPUT: true; the input reads as it did. -/
def fnModePermSpec : ChangeSpec := { name := "fnModePerm", fn := fun _ => fun
  | [d] => { results := [.lit (.bool true)], args := [d] }
  | _ => none }
def fnModePermRow : OpenClaim := { program := "ytcjeaifiigakoaa", sum := "bb6b0c520689ef0133f2b90874de1930c2d3d5474a48e7e3776a5aaf6b5ce5fa", func := "lib-fingerpost/laws.FnModePerm", spec := "fnModePerm", apart := false }
def FnModePermSaid : Prop := fnModePermRow.holds Try.pinned (OpenSpec.ofChange fnModePermSpec)

/-- ITS FALSE NEIGHBOUR: 'it returns false'. Refute it at one input. -/
def fnModePermWrong : ChangeSpec := { name := "fnModePerm", fn := fun _ => fun
  | [d] => { results := [.lit (.bool false)], args := [d] }
  | _ => none }
def FnModePermWrongFalsely : Prop := fnModePermRow.holds Try.pinned (OpenSpec.ofChange fnModePermWrong)

/-- 'laws.FnModePerms': WHATEVER THE INPUT: true; the input reads as it did. -/
def fnModePermsSpec : ChangeSpec := { name := "fnModePerms", fn := fun _ => fun
  | [d1, d2] => { results := [.lit (.bool true)], args := [d1, d2] }
  | _ => none }
def fnModePermsRow : OpenClaim := { program := "ytcjeaifiigakoaa", sum := "bb6b0c520689ef0133f2b90874de1930c2d3d5474a48e7e3776a5aaf6b5ce5fa", func := "lib-fingerpost/laws.FnModePerms", spec := "fnModePerms", apart := false }
def FnModePermsSaid : Prop := fnModePermsRow.holds Try.pinned (OpenSpec.ofChange fnModePermsSpec)

/-- ITS FALSE NEIGHBOUR: 'it returns false'. Refute it at one input. -/
def fnModePermsWrong : ChangeSpec := { name := "fnModePerms", fn := fun _ => fun
  | [d1, d2] => { results := [.lit (.bool false)], args := [d1, d2] }
  | _ => none }
def FnModePermsWrongFalsely : Prop := fnModePermsRow.holds Try.pinned (OpenSpec.ofChange fnModePermsWrong)

/-- 'laws.FnModeType': WHATEVER THE INPUT: true; the input reads as it did. -/
def fnModeTypeSpec : ChangeSpec := { name := "fnModeType", fn := fun _ => fun
  | [d] => { results := [.lit (.bool true)], args := [d] }
  | _ => none }
def fnModeTypeRow : OpenClaim := { program := "ytcjeaifiigakoaa", sum := "bb6b0c520689ef0133f2b90874de1930c2d3d5474a48e7e3776a5aaf6b5ce5fa", func := "lib-fingerpost/laws.FnModeType", spec := "fnModeType", apart := false }
def FnModeTypeSaid : Prop := fnModeTypeRow.holds Try.pinned (OpenSpec.ofChange fnModeTypeSpec)

/-- ITS FALSE NEIGHBOUR: 'it returns false'. Refute it at one input. -/
def fnModeTypeWrong : ChangeSpec := { name := "fnModeType", fn := fun _ => fun
  | [d] => { results := [.lit (.bool false)], args := [d] }
  | _ => none }
def FnModeTypeWrongFalsely : Prop := fnModeTypeRow.holds Try.pinned (OpenSpec.ofChange fnModeTypeWrong)

/-- 'laws.FnModeTypes': WHATEVER THE INPUT: true; the input reads as it did. -/
def fnModeTypesSpec : ChangeSpec := { name := "fnModeTypes", fn := fun _ => fun
  | [d1, d2] => { results := [.lit (.bool true)], args := [d1, d2] }
  | _ => none }
def fnModeTypesRow : OpenClaim := { program := "ytcjeaifiigakoaa", sum := "bb6b0c520689ef0133f2b90874de1930c2d3d5474a48e7e3776a5aaf6b5ce5fa", func := "lib-fingerpost/laws.FnModeTypes", spec := "fnModeTypes", apart := false }
def FnModeTypesSaid : Prop := fnModeTypesRow.holds Try.pinned (OpenSpec.ofChange fnModeTypesSpec)

/-- ITS FALSE NEIGHBOUR: 'it returns false'. Refute it at one input. -/
def fnModeTypesWrong : ChangeSpec := { name := "fnModeTypes", fn := fun _ => fun
  | [d1, d2] => { results := [.lit (.bool false)], args := [d1, d2] }
  | _ => none }
def FnModeTypesWrongFalsely : Prop := fnModeTypesRow.holds Try.pinned (OpenSpec.ofChange fnModeTypesWrong)

/-- 'laws.FnModeParts': WHATEVER THE INPUT: true; the input reads as it did. -/
def fnModePartsSpec : ChangeSpec := { name := "fnModeParts", fn := fun _ => fun
  | [d] => { results := [.lit (.bool true)], args := [d] }
  | _ => none }
def fnModePartsRow : OpenClaim := { program := "ytcjeaifiigakoaa", sum := "bb6b0c520689ef0133f2b90874de1930c2d3d5474a48e7e3776a5aaf6b5ce5fa", func := "lib-fingerpost/laws.FnModeParts", spec := "fnModeParts", apart := false }
def FnModePartsSaid : Prop := fnModePartsRow.holds Try.pinned (OpenSpec.ofChange fnModePartsSpec)

/-- ITS FALSE NEIGHBOUR: 'it returns false'. Refute it at one input. -/
def fnModePartsWrong : ChangeSpec := { name := "fnModeParts", fn := fun _ => fun
  | [d] => { results := [.lit (.bool false)], args := [d] }
  | _ => none }
def FnModePartsWrongFalsely : Prop := fnModePartsRow.holds Try.pinned (OpenSpec.ofChange fnModePartsWrong)

/-- 'laws.FnModeRegularByType': WHATEVER THE INPUT: true; the input reads as it did. -/
def fnModeRegularByTypeSpec : ChangeSpec := { name := "fnModeRegularByType", fn := fun _ => fun
  | [d] => { results := [.lit (.bool true)], args := [d] }
  | _ => none }
def fnModeRegularByTypeRow : OpenClaim := { program := "ytcjeaifiigakoaa", sum := "bb6b0c520689ef0133f2b90874de1930c2d3d5474a48e7e3776a5aaf6b5ce5fa", func := "lib-fingerpost/laws.FnModeRegularByType", spec := "fnModeRegularByType", apart := false }
def FnModeRegularByTypeSaid : Prop := fnModeRegularByTypeRow.holds Try.pinned (OpenSpec.ofChange fnModeRegularByTypeSpec)

/-- ITS FALSE NEIGHBOUR: 'it returns false'. Refute it at one input. -/
def fnModeRegularByTypeWrong : ChangeSpec := { name := "fnModeRegularByType", fn := fun _ => fun
  | [d] => { results := [.lit (.bool false)], args := [d] }
  | _ => none }
def FnModeRegularByTypeWrongFalsely : Prop := fnModeRegularByTypeRow.holds Try.pinned (OpenSpec.ofChange fnModeRegularByTypeWrong)

/-- 'laws.FnModeOthers': WHATEVER THE INPUT: true; the input reads as it did. -/
def fnModeOthersSpec : ChangeSpec := { name := "fnModeOthers", fn := fun _ => fun
  | [d1, d2] => { results := [.lit (.bool true)], args := [d1, d2] }
  | _ => none }
def fnModeOthersRow : OpenClaim := { program := "ytcjeaifiigakoaa", sum := "bb6b0c520689ef0133f2b90874de1930c2d3d5474a48e7e3776a5aaf6b5ce5fa", func := "lib-fingerpost/laws.FnModeOthers", spec := "fnModeOthers", apart := false }
def FnModeOthersSaid : Prop := fnModeOthersRow.holds Try.pinned (OpenSpec.ofChange fnModeOthersSpec)

/-- ITS FALSE NEIGHBOUR: 'it returns false'. Refute it at one input. -/
def fnModeOthersWrong : ChangeSpec := { name := "fnModeOthers", fn := fun _ => fun
  | [d1, d2] => { results := [.lit (.bool false)], args := [d1, d2] }
  | _ => none }
def FnModeOthersWrongFalsely : Prop := fnModeOthersRow.holds Try.pinned (OpenSpec.ofChange fnModeOthersWrong)

/- THE SECOND FORM. 'bulk': how many values and letters a reading holds, each counted each time it is reached (what is shared counts as often as it is met; a slice's spare places count too). A statement '..UptoSaid' is the law's where the arguments, and the package variables that the reading takes, are together of bulk at most 1048576: NARROWER than '..Said'. Prove '..Said' where nothing that the law and all that it calls make is longer than what came in: it says more and counts as full. Else prove '..UptoSaid'. A law counts once. -/
mutual
def uptoBulk {H : Type} : DataW H → Nat
  | .lit (.string bytes) => bytes.length + 1
  | .lit _ => 1
  | .nil => 1
  | .ptr d => uptoBulk d + 1
  | .slice elems spare => uptoBulkAll elems + uptoBulkAll spare + 1
  | .agg parts => uptoBulkAll parts + 1
  | .iface _ d => uptoBulk d + 1
  | .map entries => uptoBulkEntries entries + 1
  | .held _ => 1
def uptoBulkAll {H : Type} : List (DataW H) → Nat
  | [] => 0
  | d :: r => uptoBulk d + uptoBulkAll r
def uptoBulkEntries {H : Type} : List (Lit × DataW H) → Nat
  | [] => 0
  | x :: r => uptoBulkEntry x + uptoBulkEntries r
def uptoBulkEntry {H : Type} : Lit × DataW H → Nat
  | (.string bytes, d) => bytes.length + uptoBulk d + 1
  | (_, d) => uptoBulk d + 1
 end
def uptoSmall : (H : Type) → List (DataW H) → Bool := fun _ ds => decide (uptoBulkAll ds ≤ 1048576)
def OpenSpec.upto (s : _root_.Go.ChangeSpec) : _root_.Go.OpenSpec := { _root_.Go.OpenSpec.ofChange s with cond := some uptoSmall }

/-- 'laws.FnLevelLevel', WHERE WHAT IT READS IS OF BULK AT MOST 1048576: true; the input reads as it did. -/
def fnLevelLevelUptoRow : OpenClaim := { program := "ytcjeaifiigakoaa", sum := "bb6b0c520689ef0133f2b90874de1930c2d3d5474a48e7e3776a5aaf6b5ce5fa", func := "lib-fingerpost/laws.FnLevelLevel", spec := "fnLevelLevel", apart := false, narrowed := true }
def FnLevelLevelUptoSaid : Prop := fnLevelLevelUptoRow.holds Try.pinned (OpenSpec.upto fnLevelLevelSpec)

/-- 'laws.FnModeIsDir', WHERE WHAT IT READS IS OF BULK AT MOST 1048576: true; the input reads as it did. -/
def fnModeIsDirUptoRow : OpenClaim := { program := "ytcjeaifiigakoaa", sum := "bb6b0c520689ef0133f2b90874de1930c2d3d5474a48e7e3776a5aaf6b5ce5fa", func := "lib-fingerpost/laws.FnModeIsDir", spec := "fnModeIsDir", apart := false, narrowed := true }
def FnModeIsDirUptoSaid : Prop := fnModeIsDirUptoRow.holds Try.pinned (OpenSpec.upto fnModeIsDirSpec)

/-- 'laws.FnModeIsRegular', WHERE WHAT IT READS IS OF BULK AT MOST 1048576: true; the input reads as it did. -/
def fnModeIsRegularUptoRow : OpenClaim := { program := "ytcjeaifiigakoaa", sum := "bb6b0c520689ef0133f2b90874de1930c2d3d5474a48e7e3776a5aaf6b5ce5fa", func := "lib-fingerpost/laws.FnModeIsRegular", spec := "fnModeIsRegular", apart := false, narrowed := true }
def FnModeIsRegularUptoSaid : Prop := fnModeIsRegularUptoRow.holds Try.pinned (OpenSpec.upto fnModeIsRegularSpec)

/-- 'laws.FnModePerm', WHERE WHAT IT READS IS OF BULK AT MOST 1048576: true; the input reads as it did. -/
def fnModePermUptoRow : OpenClaim := { program := "ytcjeaifiigakoaa", sum := "bb6b0c520689ef0133f2b90874de1930c2d3d5474a48e7e3776a5aaf6b5ce5fa", func := "lib-fingerpost/laws.FnModePerm", spec := "fnModePerm", apart := false, narrowed := true }
def FnModePermUptoSaid : Prop := fnModePermUptoRow.holds Try.pinned (OpenSpec.upto fnModePermSpec)

/-- 'laws.FnModePerms', WHERE WHAT IT READS IS OF BULK AT MOST 1048576: true; the input reads as it did. -/
def fnModePermsUptoRow : OpenClaim := { program := "ytcjeaifiigakoaa", sum := "bb6b0c520689ef0133f2b90874de1930c2d3d5474a48e7e3776a5aaf6b5ce5fa", func := "lib-fingerpost/laws.FnModePerms", spec := "fnModePerms", apart := false, narrowed := true }
def FnModePermsUptoSaid : Prop := fnModePermsUptoRow.holds Try.pinned (OpenSpec.upto fnModePermsSpec)

/-- 'laws.FnModeType', WHERE WHAT IT READS IS OF BULK AT MOST 1048576: true; the input reads as it did. -/
def fnModeTypeUptoRow : OpenClaim := { program := "ytcjeaifiigakoaa", sum := "bb6b0c520689ef0133f2b90874de1930c2d3d5474a48e7e3776a5aaf6b5ce5fa", func := "lib-fingerpost/laws.FnModeType", spec := "fnModeType", apart := false, narrowed := true }
def FnModeTypeUptoSaid : Prop := fnModeTypeUptoRow.holds Try.pinned (OpenSpec.upto fnModeTypeSpec)

/-- 'laws.FnModeTypes', WHERE WHAT IT READS IS OF BULK AT MOST 1048576: true; the input reads as it did. -/
def fnModeTypesUptoRow : OpenClaim := { program := "ytcjeaifiigakoaa", sum := "bb6b0c520689ef0133f2b90874de1930c2d3d5474a48e7e3776a5aaf6b5ce5fa", func := "lib-fingerpost/laws.FnModeTypes", spec := "fnModeTypes", apart := false, narrowed := true }
def FnModeTypesUptoSaid : Prop := fnModeTypesUptoRow.holds Try.pinned (OpenSpec.upto fnModeTypesSpec)

/-- 'laws.FnModeParts', WHERE WHAT IT READS IS OF BULK AT MOST 1048576: true; the input reads as it did. -/
def fnModePartsUptoRow : OpenClaim := { program := "ytcjeaifiigakoaa", sum := "bb6b0c520689ef0133f2b90874de1930c2d3d5474a48e7e3776a5aaf6b5ce5fa", func := "lib-fingerpost/laws.FnModeParts", spec := "fnModeParts", apart := false, narrowed := true }
def FnModePartsUptoSaid : Prop := fnModePartsUptoRow.holds Try.pinned (OpenSpec.upto fnModePartsSpec)

/-- 'laws.FnModeRegularByType', WHERE WHAT IT READS IS OF BULK AT MOST 1048576: true; the input reads as it did. -/
def fnModeRegularByTypeUptoRow : OpenClaim := { program := "ytcjeaifiigakoaa", sum := "bb6b0c520689ef0133f2b90874de1930c2d3d5474a48e7e3776a5aaf6b5ce5fa", func := "lib-fingerpost/laws.FnModeRegularByType", spec := "fnModeRegularByType", apart := false, narrowed := true }
def FnModeRegularByTypeUptoSaid : Prop := fnModeRegularByTypeUptoRow.holds Try.pinned (OpenSpec.upto fnModeRegularByTypeSpec)

/-- 'laws.FnModeOthers', WHERE WHAT IT READS IS OF BULK AT MOST 1048576: true; the input reads as it did. -/
def fnModeOthersUptoRow : OpenClaim := { program := "ytcjeaifiigakoaa", sum := "bb6b0c520689ef0133f2b90874de1930c2d3d5474a48e7e3776a5aaf6b5ce5fa", func := "lib-fingerpost/laws.FnModeOthers", spec := "fnModeOthers", apart := false, narrowed := true }
def FnModeOthersUptoSaid : Prop := fnModeOthersUptoRow.holds Try.pinned (OpenSpec.upto fnModeOthersSpec)

end Rows
end Go.Proofs.Ytcjeaifiigakoaa
