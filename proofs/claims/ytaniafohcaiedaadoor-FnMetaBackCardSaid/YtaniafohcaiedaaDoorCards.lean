/-
  DERIVED. GIVEN WITH THE SEED: THE CARDS: each row of YtaniafohcaiedaaDoorRows.lean that lists a variable, with what it lists TIED to the program's text (the seventh form; the later family's looks); each row that meets fmt, with fmt's text TOLD by the authors' own Lean function (tested against real Go, not proved from fmt's source: count such statements apart). THE CARD IS WHAT COUNTS. Prove the row's statement (the work); the ties are given (YtaniafohcaiedaaDoorTie.lean); close each card by the builder's one call (the guide's Derived/Test/ToyasCard.lean, 'card_holds'). Laid BY PROGRAM, IN A SANDBOX (cutbox-door.mjs). By AI agents, Wed Nov 11 2026. No macro, syntax, notation, axiom, sorry.
-/
import Derived.Test.YtaniafohcaiedaaDoorRows
import GoSem.ClaimSeven
namespace Go.Proofs.YtaniafohcaiedaaDoor
namespace Rows

/-- THE TIED CARD OF 'laws.FnConnectionAt'. -/
def fnConnectionAtCard : Claim7 := { stood := { row := fnConnectionAtRow, standIns := [], harness := (true, "b4bffaa00bbf7f0a94f94d78c32d8b5c1c7aab60f2dd703a03d672596a63ff33"), looks := true }, kinds := [], alts := [], laidByText := true, laidKinds := [.sentinel, .sentinel, .sentinel], laidTests := true, laidLooks := .later }
def FnConnectionAtCardSaid : Prop := Claim7.holds Tryd.pinned (.plain (OpenSpec.ofChange fnConnectionAtSpec)) fnConnectionAtCard

/-- THE TIED CARD OF 'laws.FnExactMorphBytes'. -/
def fnExactMorphBytesCard : Claim7 := { stood := { row := fnExactMorphBytesRow, standIns := [], harness := (true, "b4bffaa00bbf7f0a94f94d78c32d8b5c1c7aab60f2dd703a03d672596a63ff33"), looks := true }, kinds := [], alts := [], laidByText := true, laidKinds := [.sentinel, .sentinel, .sentinel], laidTests := true, laidLooks := .later }
def FnExactMorphBytesCardSaid : Prop := Claim7.holds Tryd.pinned (.plain (OpenSpec.ofChange fnExactMorphBytesSpec)) fnExactMorphBytesCard

/-- THE TIED CARD OF 'laws.FnMorphBack'. -/
def fnMorphBackCard : Claim7 := { stood := { row := fnMorphBackRow, standIns := [], harness := (true, "b4bffaa00bbf7f0a94f94d78c32d8b5c1c7aab60f2dd703a03d672596a63ff33"), looks := true }, kinds := [], alts := [], laidByText := true, laidKinds := [.sentinel, .sentinel, .sentinel], laidTests := true, laidLooks := .later }
def FnMorphBackCardSaid : Prop := Claim7.holds Tryd.pinned (.plain (OpenSpec.ofChange fnMorphBackSpec)) fnMorphBackCard

/-- THE TIED CARD OF 'laws.FnModeNames'. -/
def fnModeNamesCard : Claim7 := { stood := { row := fnModeNamesRow, standIns := [], harness := (true, "b4bffaa00bbf7f0a94f94d78c32d8b5c1c7aab60f2dd703a03d672596a63ff33"), looks := true }, kinds := [], alts := [], laidByText := true, laidKinds := [.data, .data, .data], laidTests := true, laidLooks := .later }
def FnModeNamesCardSaid : Prop := Claim7.holds Tryd.pinned (.plain (OpenSpec.ofChange fnModeNamesSpec)) fnModeNamesCard

/-- THE TIED CARD OF 'laws.FnSentencesCut'. -/
def fnSentencesCutCard : Claim7 := { stood := { row := fnSentencesCutRow, standIns := [], harness := (true, "b4bffaa00bbf7f0a94f94d78c32d8b5c1c7aab60f2dd703a03d672596a63ff33"), looks := true }, kinds := [], alts := [], laidByText := true, laidKinds := [.data, .listed, .pinned], laidTests := true, laidLooks := .later }
def FnSentencesCutCardSaid : Prop := Claim7.holds Tryd.pinned (.plain (OpenSpec.ofChange fnSentencesCutSpec)) fnSentencesCutCard

/-- THE TIED CARD OF 'laws.FnSentencesTwo'. -/
def fnSentencesTwoCard : Claim7 := { stood := { row := fnSentencesTwoRow, standIns := [], harness := (true, "b4bffaa00bbf7f0a94f94d78c32d8b5c1c7aab60f2dd703a03d672596a63ff33"), looks := true }, kinds := [], alts := [], laidByText := true, laidKinds := [.data, .listed, .pinned], laidTests := true, laidLooks := .later }
def FnSentencesTwoCardSaid : Prop := Claim7.holds Tryd.pinned (.plain (OpenSpec.ofChange fnSentencesTwoSpec)) fnSentencesTwoCard

/-- THE TIED CARD OF 'laws.FnScanEmpty'. -/
def fnScanEmptyCard : Claim7 := { stood := { row := fnScanEmptyRow, standIns := [], harness := (true, "b4bffaa00bbf7f0a94f94d78c32d8b5c1c7aab60f2dd703a03d672596a63ff33"), looks := true }, kinds := [], alts := [], laidByText := true, laidKinds := [.data, .listed, .pinned], laidTests := true, laidLooks := .later }
def FnScanEmptyCardSaid : Prop := Claim7.holds Tryd.pinned (.plain (OpenSpec.ofChange fnScanEmptySpec)) fnScanEmptyCard

/-- THE TIED CARD OF 'laws.FnScanPieces'. -/
def fnScanPiecesCard : Claim7 := { stood := { row := fnScanPiecesRow, standIns := [], harness := (true, "b4bffaa00bbf7f0a94f94d78c32d8b5c1c7aab60f2dd703a03d672596a63ff33"), looks := true }, kinds := [], alts := [], laidByText := true, laidKinds := [.data, .listed, .pinned], laidTests := true, laidLooks := .later }
def FnScanPiecesCardSaid : Prop := Claim7.holds Tryd.pinned (.plain (OpenSpec.ofChange fnScanPiecesSpec)) fnScanPiecesCard

/-- THE TIED CARD OF 'laws.FnMetaBack'. -/
def fnMetaBackCard : Claim7 := { stood := { row := fnMetaBackRow, standIns := [], harness := (true, "b4bffaa00bbf7f0a94f94d78c32d8b5c1c7aab60f2dd703a03d672596a63ff33"), looks := true }, kinds := [], alts := [], laidByText := true, laidKinds := [.sentinel, .sentinel, .sentinel], laidTests := true, laidLooks := .later }
def FnMetaBackCardSaid : Prop := Claim7.holds Tryd.pinned (.plain (OpenSpec.ofChange fnMetaBackSpec)) fnMetaBackCard

/-- THE SECOND FORM's CARD OF 'laws.FnConnectionAt'. -/
def fnConnectionAtUptoCard : Claim7 := { stood := { row := fnConnectionAtUptoRow, standIns := [], harness := (true, "b4bffaa00bbf7f0a94f94d78c32d8b5c1c7aab60f2dd703a03d672596a63ff33"), looks := true }, kinds := [], alts := [], laidByText := true, laidKinds := [.sentinel, .sentinel, .sentinel], laidTests := true, laidLooks := .later }
def FnConnectionAtUptoCardSaid : Prop := Claim7.holds Tryd.pinned (.plain (OpenSpec.upto fnConnectionAtSpec)) fnConnectionAtUptoCard

/-- THE SECOND FORM's CARD OF 'laws.FnExactMorphBytes'. -/
def fnExactMorphBytesUptoCard : Claim7 := { stood := { row := fnExactMorphBytesUptoRow, standIns := [], harness := (true, "b4bffaa00bbf7f0a94f94d78c32d8b5c1c7aab60f2dd703a03d672596a63ff33"), looks := true }, kinds := [], alts := [], laidByText := true, laidKinds := [.sentinel, .sentinel, .sentinel], laidTests := true, laidLooks := .later }
def FnExactMorphBytesUptoCardSaid : Prop := Claim7.holds Tryd.pinned (.plain (OpenSpec.upto fnExactMorphBytesSpec)) fnExactMorphBytesUptoCard

/-- THE SECOND FORM's CARD OF 'laws.FnMorphBack'. -/
def fnMorphBackUptoCard : Claim7 := { stood := { row := fnMorphBackUptoRow, standIns := [], harness := (true, "b4bffaa00bbf7f0a94f94d78c32d8b5c1c7aab60f2dd703a03d672596a63ff33"), looks := true }, kinds := [], alts := [], laidByText := true, laidKinds := [.sentinel, .sentinel, .sentinel], laidTests := true, laidLooks := .later }
def FnMorphBackUptoCardSaid : Prop := Claim7.holds Tryd.pinned (.plain (OpenSpec.upto fnMorphBackSpec)) fnMorphBackUptoCard

/-- THE SECOND FORM's CARD OF 'laws.FnModeNames'. -/
def fnModeNamesUptoCard : Claim7 := { stood := { row := fnModeNamesUptoRow, standIns := [], harness := (true, "b4bffaa00bbf7f0a94f94d78c32d8b5c1c7aab60f2dd703a03d672596a63ff33"), looks := true }, kinds := [], alts := [], laidByText := true, laidKinds := [.data, .data, .data], laidTests := true, laidLooks := .later }
def FnModeNamesUptoCardSaid : Prop := Claim7.holds Tryd.pinned (.plain (OpenSpec.upto fnModeNamesSpec)) fnModeNamesUptoCard

/-- THE SECOND FORM's CARD OF 'laws.FnSentencesCut'. -/
def fnSentencesCutUptoCard : Claim7 := { stood := { row := fnSentencesCutUptoRow, standIns := [], harness := (true, "b4bffaa00bbf7f0a94f94d78c32d8b5c1c7aab60f2dd703a03d672596a63ff33"), looks := true }, kinds := [], alts := [], laidByText := true, laidKinds := [.data, .listed, .pinned], laidTests := true, laidLooks := .later }
def FnSentencesCutUptoCardSaid : Prop := Claim7.holds Tryd.pinned (.plain (OpenSpec.upto fnSentencesCutSpec)) fnSentencesCutUptoCard

/-- THE SECOND FORM's CARD OF 'laws.FnSentencesTwo'. -/
def fnSentencesTwoUptoCard : Claim7 := { stood := { row := fnSentencesTwoUptoRow, standIns := [], harness := (true, "b4bffaa00bbf7f0a94f94d78c32d8b5c1c7aab60f2dd703a03d672596a63ff33"), looks := true }, kinds := [], alts := [], laidByText := true, laidKinds := [.data, .listed, .pinned], laidTests := true, laidLooks := .later }
def FnSentencesTwoUptoCardSaid : Prop := Claim7.holds Tryd.pinned (.plain (OpenSpec.upto fnSentencesTwoSpec)) fnSentencesTwoUptoCard

/-- THE SECOND FORM's CARD OF 'laws.FnScanEmpty'. -/
def fnScanEmptyUptoCard : Claim7 := { stood := { row := fnScanEmptyUptoRow, standIns := [], harness := (true, "b4bffaa00bbf7f0a94f94d78c32d8b5c1c7aab60f2dd703a03d672596a63ff33"), looks := true }, kinds := [], alts := [], laidByText := true, laidKinds := [.data, .listed, .pinned], laidTests := true, laidLooks := .later }
def FnScanEmptyUptoCardSaid : Prop := Claim7.holds Tryd.pinned (.plain (OpenSpec.upto fnScanEmptySpec)) fnScanEmptyUptoCard

/-- THE SECOND FORM's CARD OF 'laws.FnScanPieces'. -/
def fnScanPiecesUptoCard : Claim7 := { stood := { row := fnScanPiecesUptoRow, standIns := [], harness := (true, "b4bffaa00bbf7f0a94f94d78c32d8b5c1c7aab60f2dd703a03d672596a63ff33"), looks := true }, kinds := [], alts := [], laidByText := true, laidKinds := [.data, .listed, .pinned], laidTests := true, laidLooks := .later }
def FnScanPiecesUptoCardSaid : Prop := Claim7.holds Tryd.pinned (.plain (OpenSpec.upto fnScanPiecesSpec)) fnScanPiecesUptoCard

/-- THE SECOND FORM's CARD OF 'laws.FnMetaBack'. -/
def fnMetaBackUptoCard : Claim7 := { stood := { row := fnMetaBackUptoRow, standIns := [], harness := (true, "b4bffaa00bbf7f0a94f94d78c32d8b5c1c7aab60f2dd703a03d672596a63ff33"), looks := true }, kinds := [], alts := [], laidByText := true, laidKinds := [.sentinel, .sentinel, .sentinel], laidTests := true, laidLooks := .later }
def FnMetaBackUptoCardSaid : Prop := Claim7.holds Tryd.pinned (.plain (OpenSpec.upto fnMetaBackSpec)) fnMetaBackUptoCard
end Rows
end Go.Proofs.YtaniafohcaiedaaDoor
