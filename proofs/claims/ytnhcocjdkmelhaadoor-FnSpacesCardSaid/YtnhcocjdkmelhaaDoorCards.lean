/-
  DERIVED. GIVEN WITH THE SEED: THE CARDS: each row of YtnhcocjdkmelhaaDoorRows.lean that lists a variable, with what it lists TIED to the program's text (the seventh form; the later family's looks); each row that meets fmt, with fmt's text TOLD by the authors' own Lean function (tested against real Go, not proved from fmt's source: count such statements apart). THE CARD IS WHAT COUNTS. Prove the row's statement (the work); the ties are given (YtnhcocjdkmelhaaDoorTie.lean); close each card by the builder's one call (the guide's Derived/Test/ToyasCard.lean, 'card_holds'). Laid BY PROGRAM, IN A SANDBOX (cutbox-door.mjs). By AI agents, Wed Nov 11 2026. No macro, syntax, notation, axiom, sorry.
-/
import Derived.Test.YtnhcocjdkmelhaaDoorRows
import GoSem.ClaimSeven
namespace Go.Proofs.YtnhcocjdkmelhaaDoor
namespace Rows

/-- THE TIED CARD OF 'laws.FnTrimNewlines'. -/
def fnTrimNewlinesCard : Claim7 := { stood := { row := fnTrimNewlinesRow, standIns := [], harness := (true, "b5e35cead2ebcf9d868036cfc2f2c18007341be5c8d8cac90705128da13dc149"), looks := false }, kinds := [], alts := [], laidByText := true, laidKinds := [.data, .pinned], laidTests := true, laidLooks := .later }
def FnTrimNewlinesCardSaid : Prop := Claim7.holds Tryd.pinned (.plain (OpenSpec.ofChange fnTrimNewlinesSpec)) fnTrimNewlinesCard

/-- THE TIED CARD OF 'laws.FnSpaces'. -/
def fnSpacesCard : Claim7 := { stood := { row := fnSpacesRow, standIns := [], harness := (true, "b5e35cead2ebcf9d868036cfc2f2c18007341be5c8d8cac90705128da13dc149"), looks := false }, kinds := [], alts := [], laidByText := true, laidKinds := [.data, .listed, .pinned], laidTests := true, laidLooks := .later }
def FnSpacesCardSaid : Prop := Claim7.holds Tryd.pinned (.plain (OpenSpec.ofChange fnSpacesSpec)) fnSpacesCard

/-- THE TIED CARD OF 'laws.FnInlineCode'. -/
def fnInlineCodeCard : Claim7 := { stood := { row := fnInlineCodeRow, standIns := [], harness := (true, "b5e35cead2ebcf9d868036cfc2f2c18007341be5c8d8cac90705128da13dc149"), looks := false }, kinds := [], alts := [], laidByText := true, laidKinds := [.data, .listed, .data, .pinned], laidTests := true, laidLooks := .later }
def FnInlineCodeCardSaid : Prop := Claim7.holds Tryd.pinned (.plain (OpenSpec.ofChange fnInlineCodeSpec)) fnInlineCodeCard

/-- THE TIED CARD OF 'laws.FnQuery'. -/
def fnQueryCard : Claim7 := { stood := { row := fnQueryRow, standIns := [], harness := (true, "b5e35cead2ebcf9d868036cfc2f2c18007341be5c8d8cac90705128da13dc149"), looks := false }, kinds := [], alts := [], laidByText := true, laidKinds := [.data], laidTests := true, laidLooks := .later }
def FnQueryCardSaid : Prop := Claim7.holds Tryd.pinned (.plain (OpenSpec.ofChange fnQuerySpec)) fnQueryCard

/-- THE SECOND FORM's CARD OF 'laws.FnTrimNewlines'. -/
def fnTrimNewlinesUptoCard : Claim7 := { stood := { row := fnTrimNewlinesUptoRow, standIns := [], harness := (true, "b5e35cead2ebcf9d868036cfc2f2c18007341be5c8d8cac90705128da13dc149"), looks := false }, kinds := [], alts := [], laidByText := true, laidKinds := [.data, .pinned], laidTests := true, laidLooks := .later }
def FnTrimNewlinesUptoCardSaid : Prop := Claim7.holds Tryd.pinned (.plain (OpenSpec.upto fnTrimNewlinesSpec)) fnTrimNewlinesUptoCard

/-- THE SECOND FORM's CARD OF 'laws.FnSpaces'. -/
def fnSpacesUptoCard : Claim7 := { stood := { row := fnSpacesUptoRow, standIns := [], harness := (true, "b5e35cead2ebcf9d868036cfc2f2c18007341be5c8d8cac90705128da13dc149"), looks := false }, kinds := [], alts := [], laidByText := true, laidKinds := [.data, .listed, .pinned], laidTests := true, laidLooks := .later }
def FnSpacesUptoCardSaid : Prop := Claim7.holds Tryd.pinned (.plain (OpenSpec.upto fnSpacesSpec)) fnSpacesUptoCard

/-- THE SECOND FORM's CARD OF 'laws.FnInlineCode'. -/
def fnInlineCodeUptoCard : Claim7 := { stood := { row := fnInlineCodeUptoRow, standIns := [], harness := (true, "b5e35cead2ebcf9d868036cfc2f2c18007341be5c8d8cac90705128da13dc149"), looks := false }, kinds := [], alts := [], laidByText := true, laidKinds := [.data, .listed, .data, .pinned], laidTests := true, laidLooks := .later }
def FnInlineCodeUptoCardSaid : Prop := Claim7.holds Tryd.pinned (.plain (OpenSpec.upto fnInlineCodeSpec)) fnInlineCodeUptoCard

/-- THE SECOND FORM's CARD OF 'laws.FnQuery'. -/
def fnQueryUptoCard : Claim7 := { stood := { row := fnQueryUptoRow, standIns := [], harness := (true, "b5e35cead2ebcf9d868036cfc2f2c18007341be5c8d8cac90705128da13dc149"), looks := false }, kinds := [], alts := [], laidByText := true, laidKinds := [.data], laidTests := true, laidLooks := .later }
def FnQueryUptoCardSaid : Prop := Claim7.holds Tryd.pinned (.plain (OpenSpec.upto fnQuerySpec)) fnQueryUptoCard
end Rows
end Go.Proofs.YtnhcocjdkmelhaaDoor
