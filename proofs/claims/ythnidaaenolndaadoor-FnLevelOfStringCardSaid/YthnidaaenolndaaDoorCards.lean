/-
  DERIVED. GIVEN WITH THE SEED: THE CARDS: each row of YthnidaaenolndaaDoorRows.lean that lists a variable, with what it lists TIED to the program's text (the seventh form; the later family's looks); each row that meets fmt, with fmt's text TOLD by the authors' own Lean function (tested against real Go, not proved from fmt's source: count such statements apart). THE CARD IS WHAT COUNTS. Prove the row's statement (the work); the ties are given (YthnidaaenolndaaDoorTie.lean); close each card by the builder's one call (the guide's Derived/Test/ToyasCard.lean, 'card_holds'). Laid BY PROGRAM, IN A SANDBOX (cutbox-door.mjs). By AI agents, Wed Nov 11 2026. No macro, syntax, notation, axiom, sorry.
-/
import Derived.Test.YthnidaaenolndaaDoorRows
import GoSem.ClaimSeven
namespace Go.Proofs.YthnidaaenolndaaDoor
namespace Rows

/-- THE TIED CARD OF 'laws.FnLevelBetween'. -/
def fnLevelBetweenCard : Claim7 := { stood := { row := fnLevelBetweenRow, standIns := [], harness := (true, "0e205056c00b3e2efb8fe3754d370d89b4c85bbb42267a87e0df993520d3297a"), looks := false }, kinds := [], alts := [], laidByText := true, laidKinds := [.data, .data, .data], laidTests := true, laidLooks := .later }
def FnLevelBetweenCardSaid : Prop := Claim7.holds Tryd.pinned (.plain (OpenSpec.ofChange fnLevelBetweenSpec)) fnLevelBetweenCard

/-- THE TIED CARD OF 'laws.FnLevelFar'. -/
def fnLevelFarCard : Claim7 := { stood := { row := fnLevelFarRow, standIns := [], harness := (true, "0e205056c00b3e2efb8fe3754d370d89b4c85bbb42267a87e0df993520d3297a"), looks := false }, kinds := [], alts := [], laidByText := true, laidKinds := [.data, .data, .data], laidTests := true, laidLooks := .later }
def FnLevelFarCardSaid : Prop := Claim7.holds Tryd.pinned (.plain (OpenSpec.ofChange fnLevelFarSpec)) fnLevelFarCard

/-- THE TIED CARD OF 'laws.FnLevelMirror'. -/
def fnLevelMirrorCard : Claim7 := { stood := { row := fnLevelMirrorRow, standIns := [], harness := (true, "0e205056c00b3e2efb8fe3754d370d89b4c85bbb42267a87e0df993520d3297a"), looks := false }, kinds := [], alts := [], laidByText := true, laidKinds := [.data, .data, .data], laidTests := true, laidLooks := .later }
def FnLevelMirrorCardSaid : Prop := Claim7.holds Tryd.pinned (.plain (OpenSpec.ofChange fnLevelMirrorSpec)) fnLevelMirrorCard

/-- THE TIED CARD OF 'laws.FnLevelNames'. -/
def fnLevelNamesCard : Claim7 := { stood := { row := fnLevelNamesRow, standIns := [], harness := (true, "0e205056c00b3e2efb8fe3754d370d89b4c85bbb42267a87e0df993520d3297a"), looks := false }, kinds := [], alts := [], laidByText := true, laidKinds := [.data, .data, .data], laidTests := true, laidLooks := .later }
def FnLevelNamesCardSaid : Prop := Claim7.holds Tryd.pinned (.plain (OpenSpec.ofChange fnLevelNamesSpec)) fnLevelNamesCard

/-- THE TIED CARD OF 'laws.FnLevelOfString'. -/
def fnLevelOfStringCard : Claim7 := { stood := { row := fnLevelOfStringRow, standIns := [], harness := (true, "0e205056c00b3e2efb8fe3754d370d89b4c85bbb42267a87e0df993520d3297a"), looks := false }, kinds := [], alts := [], laidByText := true, laidKinds := [.data, .data, .data], laidTests := true, laidLooks := .later }
def FnLevelOfStringCardSaid : Prop := Claim7.holds Tryd.pinned (.plain (OpenSpec.ofChange fnLevelOfStringSpec)) fnLevelOfStringCard

/-- THE TIED CARD OF 'laws.FnLevelString'. -/
def fnLevelStringCard : Claim7 := { stood := { row := fnLevelStringRow, standIns := [], harness := (true, "0e205056c00b3e2efb8fe3754d370d89b4c85bbb42267a87e0df993520d3297a"), looks := false }, kinds := [], alts := [], laidByText := true, laidKinds := [.data, .data, .data], laidTests := true, laidLooks := .later }
def FnLevelStringCardSaid : Prop := Claim7.holds Tryd.pinned (.plain (OpenSpec.ofChange fnLevelStringSpec)) fnLevelStringCard

/-- THE TIED CARD OF 'laws.FnLevelStringAll'. -/
def fnLevelStringAllCard : Claim7 := { stood := { row := fnLevelStringAllRow, standIns := [], harness := (true, "0e205056c00b3e2efb8fe3754d370d89b4c85bbb42267a87e0df993520d3297a"), looks := false }, kinds := [], alts := [], laidByText := true, laidKinds := [.data, .data, .data], laidTests := true, laidLooks := .later }
def FnLevelStringAllCardSaid : Prop := Claim7.holds Tryd.pinned (.plain (OpenSpec.ofChange fnLevelStringAllSpec)) fnLevelStringAllCard

/-- THE TIED CARD OF 'laws.FnLevelUpper'. -/
def fnLevelUpperCard : Claim7 := { stood := { row := fnLevelUpperRow, standIns := [], harness := (true, "0e205056c00b3e2efb8fe3754d370d89b4c85bbb42267a87e0df993520d3297a"), looks := false }, kinds := [], alts := [], laidByText := true, laidKinds := [.data, .data, .data], laidTests := true, laidLooks := .later }
def FnLevelUpperCardSaid : Prop := Claim7.holds Tryd.pinned (.plain (OpenSpec.ofChange fnLevelUpperSpec)) fnLevelUpperCard

/-- THE SECOND FORM's CARD OF 'laws.FnLevelBetween'. -/
def fnLevelBetweenUptoCard : Claim7 := { stood := { row := fnLevelBetweenUptoRow, standIns := [], harness := (true, "0e205056c00b3e2efb8fe3754d370d89b4c85bbb42267a87e0df993520d3297a"), looks := false }, kinds := [], alts := [], laidByText := true, laidKinds := [.data, .data, .data], laidTests := true, laidLooks := .later }
def FnLevelBetweenUptoCardSaid : Prop := Claim7.holds Tryd.pinned (.plain (OpenSpec.upto fnLevelBetweenSpec)) fnLevelBetweenUptoCard

/-- THE SECOND FORM's CARD OF 'laws.FnLevelFar'. -/
def fnLevelFarUptoCard : Claim7 := { stood := { row := fnLevelFarUptoRow, standIns := [], harness := (true, "0e205056c00b3e2efb8fe3754d370d89b4c85bbb42267a87e0df993520d3297a"), looks := false }, kinds := [], alts := [], laidByText := true, laidKinds := [.data, .data, .data], laidTests := true, laidLooks := .later }
def FnLevelFarUptoCardSaid : Prop := Claim7.holds Tryd.pinned (.plain (OpenSpec.upto fnLevelFarSpec)) fnLevelFarUptoCard

/-- THE SECOND FORM's CARD OF 'laws.FnLevelMirror'. -/
def fnLevelMirrorUptoCard : Claim7 := { stood := { row := fnLevelMirrorUptoRow, standIns := [], harness := (true, "0e205056c00b3e2efb8fe3754d370d89b4c85bbb42267a87e0df993520d3297a"), looks := false }, kinds := [], alts := [], laidByText := true, laidKinds := [.data, .data, .data], laidTests := true, laidLooks := .later }
def FnLevelMirrorUptoCardSaid : Prop := Claim7.holds Tryd.pinned (.plain (OpenSpec.upto fnLevelMirrorSpec)) fnLevelMirrorUptoCard

/-- THE SECOND FORM's CARD OF 'laws.FnLevelNames'. -/
def fnLevelNamesUptoCard : Claim7 := { stood := { row := fnLevelNamesUptoRow, standIns := [], harness := (true, "0e205056c00b3e2efb8fe3754d370d89b4c85bbb42267a87e0df993520d3297a"), looks := false }, kinds := [], alts := [], laidByText := true, laidKinds := [.data, .data, .data], laidTests := true, laidLooks := .later }
def FnLevelNamesUptoCardSaid : Prop := Claim7.holds Tryd.pinned (.plain (OpenSpec.upto fnLevelNamesSpec)) fnLevelNamesUptoCard

/-- THE SECOND FORM's CARD OF 'laws.FnLevelOfString'. -/
def fnLevelOfStringUptoCard : Claim7 := { stood := { row := fnLevelOfStringUptoRow, standIns := [], harness := (true, "0e205056c00b3e2efb8fe3754d370d89b4c85bbb42267a87e0df993520d3297a"), looks := false }, kinds := [], alts := [], laidByText := true, laidKinds := [.data, .data, .data], laidTests := true, laidLooks := .later }
def FnLevelOfStringUptoCardSaid : Prop := Claim7.holds Tryd.pinned (.plain (OpenSpec.upto fnLevelOfStringSpec)) fnLevelOfStringUptoCard

/-- THE SECOND FORM's CARD OF 'laws.FnLevelString'. -/
def fnLevelStringUptoCard : Claim7 := { stood := { row := fnLevelStringUptoRow, standIns := [], harness := (true, "0e205056c00b3e2efb8fe3754d370d89b4c85bbb42267a87e0df993520d3297a"), looks := false }, kinds := [], alts := [], laidByText := true, laidKinds := [.data, .data, .data], laidTests := true, laidLooks := .later }
def FnLevelStringUptoCardSaid : Prop := Claim7.holds Tryd.pinned (.plain (OpenSpec.upto fnLevelStringSpec)) fnLevelStringUptoCard

/-- THE SECOND FORM's CARD OF 'laws.FnLevelStringAll'. -/
def fnLevelStringAllUptoCard : Claim7 := { stood := { row := fnLevelStringAllUptoRow, standIns := [], harness := (true, "0e205056c00b3e2efb8fe3754d370d89b4c85bbb42267a87e0df993520d3297a"), looks := false }, kinds := [], alts := [], laidByText := true, laidKinds := [.data, .data, .data], laidTests := true, laidLooks := .later }
def FnLevelStringAllUptoCardSaid : Prop := Claim7.holds Tryd.pinned (.plain (OpenSpec.upto fnLevelStringAllSpec)) fnLevelStringAllUptoCard

/-- THE SECOND FORM's CARD OF 'laws.FnLevelUpper'. -/
def fnLevelUpperUptoCard : Claim7 := { stood := { row := fnLevelUpperUptoRow, standIns := [], harness := (true, "0e205056c00b3e2efb8fe3754d370d89b4c85bbb42267a87e0df993520d3297a"), looks := false }, kinds := [], alts := [], laidByText := true, laidKinds := [.data, .data, .data], laidTests := true, laidLooks := .later }
def FnLevelUpperUptoCardSaid : Prop := Claim7.holds Tryd.pinned (.plain (OpenSpec.upto fnLevelUpperSpec)) fnLevelUpperUptoCard
end Rows
end Go.Proofs.YthnidaaenolndaaDoor
