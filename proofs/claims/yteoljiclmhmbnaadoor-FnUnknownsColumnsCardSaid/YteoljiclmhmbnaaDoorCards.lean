/-
  DERIVED. GIVEN WITH THE SEED: THE CARDS: each row of YteoljiclmhmbnaaDoorRows.lean that lists a variable, with what it lists TIED to the program's text (the seventh form; the later family's looks); each row that meets fmt, with fmt's text TOLD by the authors' own Lean function (tested against real Go, not proved from fmt's source: count such statements apart). THE CARD IS WHAT COUNTS. Prove the row's statement (the work); the ties are given (YteoljiclmhmbnaaDoorTie.lean); close each card by the builder's one call (the guide's Derived/Test/ToyasCard.lean, 'card_holds'). Laid BY PROGRAM, IN A SANDBOX (cutbox-door.mjs). By AI agents, Wed Nov 11 2026. No macro, syntax, notation, axiom, sorry.
-/
import Derived.Test.YteoljiclmhmbnaaDoorRows
import GoSem.ClaimSeven
namespace Go.Proofs.YteoljiclmhmbnaaDoor
namespace Rows

/-- THE TIED CARD OF 'laws.FnUserDictOrder'. -/
def fnUserDictOrderCard : Claim7 := { stood := { row := fnUserDictOrderRow, standIns := [], harness := (true, "f5c1dcb239493b725e7e004f05872585ece7a6389b84b012f13f9036ffea8825"), looks := true }, kinds := [], alts := [], laidByText := true, laidKinds := [.data, .listed, .data, .pinned], laidTests := true, laidLooks := .later }
def FnUserDictOrderCardSaid : Prop := Claim7.holds Tryd.pinned (.plain (OpenSpec.ofChange fnUserDictOrderSpec)) fnUserDictOrderCard

/-- THE TIED CARD OF 'laws.FnUserDictTwice'. -/
def fnUserDictTwiceCard : Claim7 := { stood := { row := fnUserDictTwiceRow, standIns := [], harness := (true, "f5c1dcb239493b725e7e004f05872585ece7a6389b84b012f13f9036ffea8825"), looks := true }, kinds := [], alts := [], laidByText := true, laidKinds := [.data, .listed, .data, .pinned], laidTests := true, laidLooks := .later }
def FnUserDictTwiceCardSaid : Prop := Claim7.holds Tryd.pinned (.plain (OpenSpec.ofChange fnUserDictTwiceSpec)) fnUserDictTwiceCard

/-- THE TIED CARD OF 'laws.FnCharDefRange'. -/
def fnCharDefRangeCard : Claim7 := { stood := { row := fnCharDefRangeRow, standIns := [], harness := (true, "f5c1dcb239493b725e7e004f05872585ece7a6389b84b012f13f9036ffea8825"), looks := true }, kinds := [], alts := [], laidByText := true, laidKinds := [.data, .data, .data, .data, .sentinel, .sentinel, .listed, .data, .pinned], laidTests := true, laidLooks := .later }
def FnCharDefRangeCardSaid : Prop := Claim7.holds Tryd.pinned (.plain (OpenSpec.ofChange fnCharDefRangeSpec)) fnCharDefRangeCard

/-- THE TIED CARD OF 'laws.FnCharDefStranger'. -/
def fnCharDefStrangerCard : Claim7 := { stood := { row := fnCharDefStrangerRow, standIns := [], harness := (true, "f5c1dcb239493b725e7e004f05872585ece7a6389b84b012f13f9036ffea8825"), looks := true }, kinds := [], alts := [], laidByText := true, laidKinds := [.data, .data, .data, .data, .sentinel, .sentinel, .listed, .data, .pinned], laidTests := true, laidLooks := .later }
def FnCharDefStrangerCardSaid : Prop := Claim7.holds Tryd.pinned (.plain (OpenSpec.ofChange fnCharDefStrangerSpec)) fnCharDefStrangerCard

/-- THE TIED CARD OF 'laws.FnUnknownsBack'. -/
def fnUnknownsBackCard : Claim7 := { stood := { row := fnUnknownsBackRow, standIns := [], harness := (true, "f5c1dcb239493b725e7e004f05872585ece7a6389b84b012f13f9036ffea8825"), looks := true }, kinds := [], alts := [], laidByText := true, laidKinds := [.data, .data, .data, .sentinel, .sentinel], laidTests := true, laidLooks := .later }
def FnUnknownsBackCardSaid : Prop := Claim7.holds Tryd.pinned (.plain (OpenSpec.ofChange fnUnknownsBackSpec)) fnUnknownsBackCard

/-- THE TIED CARD OF 'laws.FnUnknownsColumns'. -/
def fnUnknownsColumnsCard : Claim7 := { stood := { row := fnUnknownsColumnsRow, standIns := [], harness := (true, "f5c1dcb239493b725e7e004f05872585ece7a6389b84b012f13f9036ffea8825"), looks := true }, kinds := [], alts := [], laidByText := true, laidKinds := [.data, .data, .data, .sentinel, .sentinel], laidTests := true, laidLooks := .later }
def FnUnknownsColumnsCardSaid : Prop := Claim7.holds Tryd.pinned (.plain (OpenSpec.ofChange fnUnknownsColumnsSpec)) fnUnknownsColumnsCard

/-- THE SECOND FORM's CARD OF 'laws.FnUserDictOrder'. -/
def fnUserDictOrderUptoCard : Claim7 := { stood := { row := fnUserDictOrderUptoRow, standIns := [], harness := (true, "f5c1dcb239493b725e7e004f05872585ece7a6389b84b012f13f9036ffea8825"), looks := true }, kinds := [], alts := [], laidByText := true, laidKinds := [.data, .listed, .data, .pinned], laidTests := true, laidLooks := .later }
def FnUserDictOrderUptoCardSaid : Prop := Claim7.holds Tryd.pinned (.plain (OpenSpec.upto fnUserDictOrderSpec)) fnUserDictOrderUptoCard

/-- THE SECOND FORM's CARD OF 'laws.FnUserDictTwice'. -/
def fnUserDictTwiceUptoCard : Claim7 := { stood := { row := fnUserDictTwiceUptoRow, standIns := [], harness := (true, "f5c1dcb239493b725e7e004f05872585ece7a6389b84b012f13f9036ffea8825"), looks := true }, kinds := [], alts := [], laidByText := true, laidKinds := [.data, .listed, .data, .pinned], laidTests := true, laidLooks := .later }
def FnUserDictTwiceUptoCardSaid : Prop := Claim7.holds Tryd.pinned (.plain (OpenSpec.upto fnUserDictTwiceSpec)) fnUserDictTwiceUptoCard

/-- THE SECOND FORM's CARD OF 'laws.FnCharDefRange'. -/
def fnCharDefRangeUptoCard : Claim7 := { stood := { row := fnCharDefRangeUptoRow, standIns := [], harness := (true, "f5c1dcb239493b725e7e004f05872585ece7a6389b84b012f13f9036ffea8825"), looks := true }, kinds := [], alts := [], laidByText := true, laidKinds := [.data, .data, .data, .data, .sentinel, .sentinel, .listed, .data, .pinned], laidTests := true, laidLooks := .later }
def FnCharDefRangeUptoCardSaid : Prop := Claim7.holds Tryd.pinned (.plain (OpenSpec.upto fnCharDefRangeSpec)) fnCharDefRangeUptoCard

/-- THE SECOND FORM's CARD OF 'laws.FnCharDefStranger'. -/
def fnCharDefStrangerUptoCard : Claim7 := { stood := { row := fnCharDefStrangerUptoRow, standIns := [], harness := (true, "f5c1dcb239493b725e7e004f05872585ece7a6389b84b012f13f9036ffea8825"), looks := true }, kinds := [], alts := [], laidByText := true, laidKinds := [.data, .data, .data, .data, .sentinel, .sentinel, .listed, .data, .pinned], laidTests := true, laidLooks := .later }
def FnCharDefStrangerUptoCardSaid : Prop := Claim7.holds Tryd.pinned (.plain (OpenSpec.upto fnCharDefStrangerSpec)) fnCharDefStrangerUptoCard

/-- THE SECOND FORM's CARD OF 'laws.FnUnknownsBack'. -/
def fnUnknownsBackUptoCard : Claim7 := { stood := { row := fnUnknownsBackUptoRow, standIns := [], harness := (true, "f5c1dcb239493b725e7e004f05872585ece7a6389b84b012f13f9036ffea8825"), looks := true }, kinds := [], alts := [], laidByText := true, laidKinds := [.data, .data, .data, .sentinel, .sentinel], laidTests := true, laidLooks := .later }
def FnUnknownsBackUptoCardSaid : Prop := Claim7.holds Tryd.pinned (.plain (OpenSpec.upto fnUnknownsBackSpec)) fnUnknownsBackUptoCard

/-- THE SECOND FORM's CARD OF 'laws.FnUnknownsColumns'. -/
def fnUnknownsColumnsUptoCard : Claim7 := { stood := { row := fnUnknownsColumnsUptoRow, standIns := [], harness := (true, "f5c1dcb239493b725e7e004f05872585ece7a6389b84b012f13f9036ffea8825"), looks := true }, kinds := [], alts := [], laidByText := true, laidKinds := [.data, .data, .data, .sentinel, .sentinel], laidTests := true, laidLooks := .later }
def FnUnknownsColumnsUptoCardSaid : Prop := Claim7.holds Tryd.pinned (.plain (OpenSpec.upto fnUnknownsColumnsSpec)) fnUnknownsColumnsUptoCard
end Rows
end Go.Proofs.YteoljiclmhmbnaaDoor
