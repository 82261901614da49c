/-
  DERIVED. GIVEN WITH THE SEED: THE CARDS: each row of YtahmahdfjiojjaaDoorRows.lean that lists a variable, with what it lists TIED to the program's text (the seventh form; the later family's looks); each row that meets fmt, with fmt's text TOLD by the authors' own Lean function (tested against real Go, not proved from fmt's source: count such statements apart). THE CARD IS WHAT COUNTS. Prove the row's statement (the work); the ties are given (YtahmahdfjiojjaaDoorTie.lean); close each card by the builder's one call (the guide's Derived/Test/ToyasCard.lean, 'card_holds'). Laid BY PROGRAM, IN A SANDBOX (cutbox-door.mjs). By AI agents, Wed Nov 11 2026. No macro, syntax, notation, axiom, sorry.
-/
import Derived.Test.YtahmahdfjiojjaaDoorRows
import GoSem.ClaimSeven
namespace Go.Proofs.YtahmahdfjiojjaaDoor
namespace Rows

/-- THE TIED CARD OF 'laws.FnLevelJSONsApart'. -/
def fnLevelJSONsApartCard : Claim7 := { stood := { row := fnLevelJSONsApartRow, standIns := [], harness := (true, "c581d5fea0dfbfdd6bd718c3440dce79ceb972904f6971c82d06b5b193b1cf80"), looks := false }, kinds := [], alts := [], laidByText := true, laidKinds := [.data, .data, .data, .data, .pinned, .pinned, .pinned, .pinned, .pinned, .pinned], laidTests := true, laidLooks := .later }
def FnLevelJSONsApartCardSaid : Prop := Claim7.holds Tryd.pinned (.plain (OpenSpec.ofChange fnLevelJSONsApartSpec)) fnLevelJSONsApartCard

/-- THE TIED CARD OF 'laws.FnLevelJSON'. -/
def fnLevelJSONCard : Claim7 := { stood := { row := fnLevelJSONRow, standIns := [], harness := (true, "c581d5fea0dfbfdd6bd718c3440dce79ceb972904f6971c82d06b5b193b1cf80"), looks := false }, kinds := [], alts := [], laidByText := true, laidKinds := [.data, .data, .data, .data, .pinned, .pinned, .pinned, .pinned, .pinned, .pinned], laidTests := true, laidLooks := .later }
def FnLevelJSONCardSaid : Prop := Claim7.holds Tryd.pinned (.plain (OpenSpec.ofChange fnLevelJSONSpec)) fnLevelJSONCard

/-- THE TIED CARD OF 'laws.FnLevelRoads'. -/
def fnLevelRoadsCard : Claim7 := { stood := { row := fnLevelRoadsRow, standIns := [], harness := (true, "c581d5fea0dfbfdd6bd718c3440dce79ceb972904f6971c82d06b5b193b1cf80"), looks := false }, kinds := [], alts := [], laidByText := true, laidKinds := [.data, .data, .data, .data, .pinned, .pinned, .pinned, .pinned, .pinned, .pinned], laidTests := true, laidLooks := .later }
def FnLevelRoadsCardSaid : Prop := Claim7.holds Tryd.pinned (.plain (OpenSpec.ofChange fnLevelRoadsSpec)) fnLevelRoadsCard

/-- THE TIED CARD OF 'laws.FnLevelJSONAll'. -/
def fnLevelJSONAllCard : Claim7 := { stood := { row := fnLevelJSONAllRow, standIns := [], harness := (true, "c581d5fea0dfbfdd6bd718c3440dce79ceb972904f6971c82d06b5b193b1cf80"), looks := false }, kinds := [], alts := [], laidByText := true, laidKinds := [.data, .data, .data, .data, .pinned, .pinned, .pinned, .pinned, .pinned, .pinned], laidTests := true, laidLooks := .later }
def FnLevelJSONAllCardSaid : Prop := Claim7.holds Tryd.pinned (.plain (OpenSpec.ofChange fnLevelJSONAllSpec)) fnLevelJSONAllCard

/-- THE TIED CARD OF 'laws.FnLevelAppendAll'. -/
def fnLevelAppendAllCard : Claim7 := { stood := { row := fnLevelAppendAllRow, standIns := [], harness := (true, "c581d5fea0dfbfdd6bd718c3440dce79ceb972904f6971c82d06b5b193b1cf80"), looks := false }, kinds := [], alts := [], laidByText := true, laidKinds := [.data, .data, .data], laidTests := true, laidLooks := .later }
def FnLevelAppendAllCardSaid : Prop := Claim7.holds Tryd.pinned (.plain (OpenSpec.ofChange fnLevelAppendAllSpec)) fnLevelAppendAllCard

/-- THE TIED CARD OF 'laws.FnLevelAppendTwice'. -/
def fnLevelAppendTwiceCard : Claim7 := { stood := { row := fnLevelAppendTwiceRow, standIns := [], harness := (true, "c581d5fea0dfbfdd6bd718c3440dce79ceb972904f6971c82d06b5b193b1cf80"), looks := false }, kinds := [], alts := [], laidByText := true, laidKinds := [.data, .data, .data], laidTests := true, laidLooks := .later }
def FnLevelAppendTwiceCardSaid : Prop := Claim7.holds Tryd.pinned (.plain (OpenSpec.ofChange fnLevelAppendTwiceSpec)) fnLevelAppendTwiceCard

/-- THE TIED CARD OF 'laws.FnLevelAppend'. -/
def fnLevelAppendCard : Claim7 := { stood := { row := fnLevelAppendRow, standIns := [], harness := (true, "c581d5fea0dfbfdd6bd718c3440dce79ceb972904f6971c82d06b5b193b1cf80"), looks := false }, kinds := [], alts := [], laidByText := true, laidKinds := [.data, .data, .data], laidTests := true, laidLooks := .later }
def FnLevelAppendCardSaid : Prop := Claim7.holds Tryd.pinned (.plain (OpenSpec.ofChange fnLevelAppendSpec)) fnLevelAppendCard

/-- THE TIED CARD OF 'laws.FnLevelTextAll'. -/
def fnLevelTextAllCard : Claim7 := { stood := { row := fnLevelTextAllRow, standIns := [], harness := (true, "c581d5fea0dfbfdd6bd718c3440dce79ceb972904f6971c82d06b5b193b1cf80"), looks := false }, kinds := [], alts := [], laidByText := true, laidKinds := [.data, .data, .data], laidTests := true, laidLooks := .later }
def FnLevelTextAllCardSaid : Prop := Claim7.holds Tryd.pinned (.plain (OpenSpec.ofChange fnLevelTextAllSpec)) fnLevelTextAllCard

/-- THE TIED CARD OF 'laws.FnLevelText'. -/
def fnLevelTextCard : Claim7 := { stood := { row := fnLevelTextRow, standIns := [], harness := (true, "c581d5fea0dfbfdd6bd718c3440dce79ceb972904f6971c82d06b5b193b1cf80"), looks := false }, kinds := [], alts := [], laidByText := true, laidKinds := [.data, .data, .data], laidTests := true, laidLooks := .later }
def FnLevelTextCardSaid : Prop := Claim7.holds Tryd.pinned (.plain (OpenSpec.ofChange fnLevelTextSpec)) fnLevelTextCard

/-- THE TIED CARD OF 'laws.FnLevelTextsApart'. -/
def fnLevelTextsApartCard : Claim7 := { stood := { row := fnLevelTextsApartRow, standIns := [], harness := (true, "c581d5fea0dfbfdd6bd718c3440dce79ceb972904f6971c82d06b5b193b1cf80"), looks := false }, kinds := [], alts := [], laidByText := true, laidKinds := [.data, .data, .data], laidTests := true, laidLooks := .later }
def FnLevelTextsApartCardSaid : Prop := Claim7.holds Tryd.pinned (.plain (OpenSpec.ofChange fnLevelTextsApartSpec)) fnLevelTextsApartCard

/-- THE TIED CARD OF 'laws.FnLevelOfLevel'. -/
def fnLevelOfLevelCard : Claim7 := { stood := { row := fnLevelOfLevelRow, standIns := [], harness := (true, "c581d5fea0dfbfdd6bd718c3440dce79ceb972904f6971c82d06b5b193b1cf80"), looks := false }, kinds := [], alts := [], laidByText := true, laidKinds := [.data, .data, .data], laidTests := true, laidLooks := .later }
def FnLevelOfLevelCardSaid : Prop := Claim7.holds Tryd.pinned (.plain (OpenSpec.ofChange fnLevelOfLevelSpec)) fnLevelOfLevelCard

/-- THE TIED CARD OF 'laws.FnLevelsApart'. -/
def fnLevelsApartCard : Claim7 := { stood := { row := fnLevelsApartRow, standIns := [], harness := (true, "c581d5fea0dfbfdd6bd718c3440dce79ceb972904f6971c82d06b5b193b1cf80"), looks := false }, kinds := [], alts := [], laidByText := true, laidKinds := [.data, .data, .data], laidTests := true, laidLooks := .later }
def FnLevelsApartCardSaid : Prop := Claim7.holds Tryd.pinned (.plain (OpenSpec.ofChange fnLevelsApartSpec)) fnLevelsApartCard

/-- THE SECOND FORM's CARD OF 'laws.FnLevelJSONsApart'. -/
def fnLevelJSONsApartUptoCard : Claim7 := { stood := { row := fnLevelJSONsApartUptoRow, standIns := [], harness := (true, "c581d5fea0dfbfdd6bd718c3440dce79ceb972904f6971c82d06b5b193b1cf80"), looks := false }, kinds := [], alts := [], laidByText := true, laidKinds := [.data, .data, .data, .data, .pinned, .pinned, .pinned, .pinned, .pinned, .pinned], laidTests := true, laidLooks := .later }
def FnLevelJSONsApartUptoCardSaid : Prop := Claim7.holds Tryd.pinned (.plain (OpenSpec.upto fnLevelJSONsApartSpec)) fnLevelJSONsApartUptoCard

/-- THE SECOND FORM's CARD OF 'laws.FnLevelJSON'. -/
def fnLevelJSONUptoCard : Claim7 := { stood := { row := fnLevelJSONUptoRow, standIns := [], harness := (true, "c581d5fea0dfbfdd6bd718c3440dce79ceb972904f6971c82d06b5b193b1cf80"), looks := false }, kinds := [], alts := [], laidByText := true, laidKinds := [.data, .data, .data, .data, .pinned, .pinned, .pinned, .pinned, .pinned, .pinned], laidTests := true, laidLooks := .later }
def FnLevelJSONUptoCardSaid : Prop := Claim7.holds Tryd.pinned (.plain (OpenSpec.upto fnLevelJSONSpec)) fnLevelJSONUptoCard

/-- THE SECOND FORM's CARD OF 'laws.FnLevelRoads'. -/
def fnLevelRoadsUptoCard : Claim7 := { stood := { row := fnLevelRoadsUptoRow, standIns := [], harness := (true, "c581d5fea0dfbfdd6bd718c3440dce79ceb972904f6971c82d06b5b193b1cf80"), looks := false }, kinds := [], alts := [], laidByText := true, laidKinds := [.data, .data, .data, .data, .pinned, .pinned, .pinned, .pinned, .pinned, .pinned], laidTests := true, laidLooks := .later }
def FnLevelRoadsUptoCardSaid : Prop := Claim7.holds Tryd.pinned (.plain (OpenSpec.upto fnLevelRoadsSpec)) fnLevelRoadsUptoCard

/-- THE SECOND FORM's CARD OF 'laws.FnLevelJSONAll'. -/
def fnLevelJSONAllUptoCard : Claim7 := { stood := { row := fnLevelJSONAllUptoRow, standIns := [], harness := (true, "c581d5fea0dfbfdd6bd718c3440dce79ceb972904f6971c82d06b5b193b1cf80"), looks := false }, kinds := [], alts := [], laidByText := true, laidKinds := [.data, .data, .data, .data, .pinned, .pinned, .pinned, .pinned, .pinned, .pinned], laidTests := true, laidLooks := .later }
def FnLevelJSONAllUptoCardSaid : Prop := Claim7.holds Tryd.pinned (.plain (OpenSpec.upto fnLevelJSONAllSpec)) fnLevelJSONAllUptoCard

/-- THE SECOND FORM's CARD OF 'laws.FnLevelAppendAll'. -/
def fnLevelAppendAllUptoCard : Claim7 := { stood := { row := fnLevelAppendAllUptoRow, standIns := [], harness := (true, "c581d5fea0dfbfdd6bd718c3440dce79ceb972904f6971c82d06b5b193b1cf80"), looks := false }, kinds := [], alts := [], laidByText := true, laidKinds := [.data, .data, .data], laidTests := true, laidLooks := .later }
def FnLevelAppendAllUptoCardSaid : Prop := Claim7.holds Tryd.pinned (.plain (OpenSpec.upto fnLevelAppendAllSpec)) fnLevelAppendAllUptoCard

/-- THE SECOND FORM's CARD OF 'laws.FnLevelAppendTwice'. -/
def fnLevelAppendTwiceUptoCard : Claim7 := { stood := { row := fnLevelAppendTwiceUptoRow, standIns := [], harness := (true, "c581d5fea0dfbfdd6bd718c3440dce79ceb972904f6971c82d06b5b193b1cf80"), looks := false }, kinds := [], alts := [], laidByText := true, laidKinds := [.data, .data, .data], laidTests := true, laidLooks := .later }
def FnLevelAppendTwiceUptoCardSaid : Prop := Claim7.holds Tryd.pinned (.plain (OpenSpec.upto fnLevelAppendTwiceSpec)) fnLevelAppendTwiceUptoCard

/-- THE SECOND FORM's CARD OF 'laws.FnLevelAppend'. -/
def fnLevelAppendUptoCard : Claim7 := { stood := { row := fnLevelAppendUptoRow, standIns := [], harness := (true, "c581d5fea0dfbfdd6bd718c3440dce79ceb972904f6971c82d06b5b193b1cf80"), looks := false }, kinds := [], alts := [], laidByText := true, laidKinds := [.data, .data, .data], laidTests := true, laidLooks := .later }
def FnLevelAppendUptoCardSaid : Prop := Claim7.holds Tryd.pinned (.plain (OpenSpec.upto fnLevelAppendSpec)) fnLevelAppendUptoCard

/-- THE SECOND FORM's CARD OF 'laws.FnLevelTextAll'. -/
def fnLevelTextAllUptoCard : Claim7 := { stood := { row := fnLevelTextAllUptoRow, standIns := [], harness := (true, "c581d5fea0dfbfdd6bd718c3440dce79ceb972904f6971c82d06b5b193b1cf80"), looks := false }, kinds := [], alts := [], laidByText := true, laidKinds := [.data, .data, .data], laidTests := true, laidLooks := .later }
def FnLevelTextAllUptoCardSaid : Prop := Claim7.holds Tryd.pinned (.plain (OpenSpec.upto fnLevelTextAllSpec)) fnLevelTextAllUptoCard

/-- THE SECOND FORM's CARD OF 'laws.FnLevelText'. -/
def fnLevelTextUptoCard : Claim7 := { stood := { row := fnLevelTextUptoRow, standIns := [], harness := (true, "c581d5fea0dfbfdd6bd718c3440dce79ceb972904f6971c82d06b5b193b1cf80"), looks := false }, kinds := [], alts := [], laidByText := true, laidKinds := [.data, .data, .data], laidTests := true, laidLooks := .later }
def FnLevelTextUptoCardSaid : Prop := Claim7.holds Tryd.pinned (.plain (OpenSpec.upto fnLevelTextSpec)) fnLevelTextUptoCard

/-- THE SECOND FORM's CARD OF 'laws.FnLevelTextsApart'. -/
def fnLevelTextsApartUptoCard : Claim7 := { stood := { row := fnLevelTextsApartUptoRow, standIns := [], harness := (true, "c581d5fea0dfbfdd6bd718c3440dce79ceb972904f6971c82d06b5b193b1cf80"), looks := false }, kinds := [], alts := [], laidByText := true, laidKinds := [.data, .data, .data], laidTests := true, laidLooks := .later }
def FnLevelTextsApartUptoCardSaid : Prop := Claim7.holds Tryd.pinned (.plain (OpenSpec.upto fnLevelTextsApartSpec)) fnLevelTextsApartUptoCard

/-- THE SECOND FORM's CARD OF 'laws.FnLevelOfLevel'. -/
def fnLevelOfLevelUptoCard : Claim7 := { stood := { row := fnLevelOfLevelUptoRow, standIns := [], harness := (true, "c581d5fea0dfbfdd6bd718c3440dce79ceb972904f6971c82d06b5b193b1cf80"), looks := false }, kinds := [], alts := [], laidByText := true, laidKinds := [.data, .data, .data], laidTests := true, laidLooks := .later }
def FnLevelOfLevelUptoCardSaid : Prop := Claim7.holds Tryd.pinned (.plain (OpenSpec.upto fnLevelOfLevelSpec)) fnLevelOfLevelUptoCard

/-- THE SECOND FORM's CARD OF 'laws.FnLevelsApart'. -/
def fnLevelsApartUptoCard : Claim7 := { stood := { row := fnLevelsApartUptoRow, standIns := [], harness := (true, "c581d5fea0dfbfdd6bd718c3440dce79ceb972904f6971c82d06b5b193b1cf80"), looks := false }, kinds := [], alts := [], laidByText := true, laidKinds := [.data, .data, .data], laidTests := true, laidLooks := .later }
def FnLevelsApartUptoCardSaid : Prop := Claim7.holds Tryd.pinned (.plain (OpenSpec.upto fnLevelsApartSpec)) fnLevelsApartUptoCard
end Rows
end Go.Proofs.YtahmahdfjiojjaaDoor
