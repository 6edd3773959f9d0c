/-
  DERIVED. GIVEN WITH THE SEED: THE CARDS: each row of YtlallihdiffheaaDoorRows.lean that lists a variable, with what it lists TIED to the program's text (the seventh form; the later family's looks); each row that meets fmt, with fmt's text TOLD by the authors' own Lean function (tested against real Go, not proved from fmt's source: count such statements apart). THE CARD IS WHAT COUNTS. Prove the row's statement (the work); the ties are given (YtlallihdiffheaaDoorTie.lean); close each card by the builder's one call (the guide's Derived/Test/ToyasCard.lean, 'card_holds'). Laid BY PROGRAM, IN A SANDBOX (cutbox-door.mjs). By AI agents, Wed Nov 11 2026. No macro, syntax, notation, axiom, sorry.
-/
import Derived.Test.YtlallihdiffheaaDoorRows
import GoSem.ClaimSeven
namespace Go.Proofs.YtlallihdiffheaaDoor
namespace Rows

/-- THE TIED CARD OF 'laws.FnDomID'. -/
def fnDomIDCard : Claim7 := { stood := { row := fnDomIDRow, standIns := [], harness := (true, "eadd37723597b758cb44875f7092b3f24e0b7fc1797134d14d41f1727491ec50"), looks := false }, kinds := [], alts := [], laidByText := true, laidKinds := [.data, .listed, .data, .pinned], laidTests := true, laidLooks := .later }
def FnDomIDCardSaid : Prop := Claim7.holds Tryd.pinned (.plain (OpenSpec.ofChange fnDomIDSpec)) fnDomIDCard

/-- THE TIED CARD OF 'laws.FnCodeOf'. -/
def fnCodeOfCard : Claim7 := { stood := { row := fnCodeOfRow, standIns := [], harness := (true, "eadd37723597b758cb44875f7092b3f24e0b7fc1797134d14d41f1727491ec50"), looks := false }, kinds := [], alts := [], laidByText := true, laidKinds := [.listed, .sentinel], laidTests := true, laidLooks := .later }
def FnCodeOfCardSaid : Prop := Claim7.holds Tryd.pinned (.plain (OpenSpec.ofChange fnCodeOfSpec)) fnCodeOfCard

/-- THE TIED CARD OF 'laws.FnListTwice'. -/
def fnListTwiceCard : Claim7 := { stood := { row := fnListTwiceRow, standIns := [], harness := (true, "eadd37723597b758cb44875f7092b3f24e0b7fc1797134d14d41f1727491ec50"), looks := false }, kinds := [], alts := [], laidByText := true, laidKinds := [.data, .listed, .data, .pinned], laidTests := true, laidLooks := .later }
def FnListTwiceCardSaid : Prop := Claim7.holds Tryd.pinned (.plain (OpenSpec.ofChange fnListTwiceSpec)) fnListTwiceCard

/-- THE TIED CARD OF 'laws.FnSwapTags'. -/
def fnSwapTagsCard : Claim7 := { stood := { row := fnSwapTagsRow, standIns := [], harness := (true, "eadd37723597b758cb44875f7092b3f24e0b7fc1797134d14d41f1727491ec50"), looks := false }, kinds := [], alts := [], laidByText := true, laidKinds := [.data, .listed, .data, .pinned], laidTests := true, laidLooks := .later }
def FnSwapTagsCardSaid : Prop := Claim7.holds Tryd.pinned (.plain (OpenSpec.ofChange fnSwapTagsSpec)) fnSwapTagsCard

/-- THE SECOND FORM's CARD OF 'laws.FnDomID'. -/
def fnDomIDUptoCard : Claim7 := { stood := { row := fnDomIDUptoRow, standIns := [], harness := (true, "eadd37723597b758cb44875f7092b3f24e0b7fc1797134d14d41f1727491ec50"), looks := false }, kinds := [], alts := [], laidByText := true, laidKinds := [.data, .listed, .data, .pinned], laidTests := true, laidLooks := .later }
def FnDomIDUptoCardSaid : Prop := Claim7.holds Tryd.pinned (.plain (OpenSpec.upto fnDomIDSpec)) fnDomIDUptoCard

/-- THE SECOND FORM's CARD OF 'laws.FnCodeOf'. -/
def fnCodeOfUptoCard : Claim7 := { stood := { row := fnCodeOfUptoRow, standIns := [], harness := (true, "eadd37723597b758cb44875f7092b3f24e0b7fc1797134d14d41f1727491ec50"), looks := false }, kinds := [], alts := [], laidByText := true, laidKinds := [.listed, .sentinel], laidTests := true, laidLooks := .later }
def FnCodeOfUptoCardSaid : Prop := Claim7.holds Tryd.pinned (.plain (OpenSpec.upto fnCodeOfSpec)) fnCodeOfUptoCard

/-- THE SECOND FORM's CARD OF 'laws.FnListTwice'. -/
def fnListTwiceUptoCard : Claim7 := { stood := { row := fnListTwiceUptoRow, standIns := [], harness := (true, "eadd37723597b758cb44875f7092b3f24e0b7fc1797134d14d41f1727491ec50"), looks := false }, kinds := [], alts := [], laidByText := true, laidKinds := [.data, .listed, .data, .pinned], laidTests := true, laidLooks := .later }
def FnListTwiceUptoCardSaid : Prop := Claim7.holds Tryd.pinned (.plain (OpenSpec.upto fnListTwiceSpec)) fnListTwiceUptoCard

/-- THE SECOND FORM's CARD OF 'laws.FnSwapTags'. -/
def fnSwapTagsUptoCard : Claim7 := { stood := { row := fnSwapTagsUptoRow, standIns := [], harness := (true, "eadd37723597b758cb44875f7092b3f24e0b7fc1797134d14d41f1727491ec50"), looks := false }, kinds := [], alts := [], laidByText := true, laidKinds := [.data, .listed, .data, .pinned], laidTests := true, laidLooks := .later }
def FnSwapTagsUptoCardSaid : Prop := Claim7.holds Tryd.pinned (.plain (OpenSpec.upto fnSwapTagsSpec)) fnSwapTagsUptoCard
end Rows
end Go.Proofs.YtlallihdiffheaaDoor
