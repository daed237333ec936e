/-
  DERIVED. GIVEN WITH THE SEED: THE CARDS: each row of YtjifoimkjgepcaaDoorRows.lean that lists a variable, with what it lists TIED to the program's text (the seventh form; the later family's looks); each row that meets fmt, with fmt's text TOLD by the authors' own Lean function (tested against real Go, not proved from fmt's source: count such statements apart). THE CARD IS WHAT COUNTS. Prove the row's statement (the work); the ties are given (YtjifoimkjgepcaaDoorTie.lean); close each card by the builder's one call (the guide's Derived/Test/ToyasCard.lean, 'card_holds'). Laid BY PROGRAM, IN A SANDBOX (cutbox-door.mjs). By AI agents, Wed Nov 11 2026. No macro, syntax, notation, axiom, sorry.
-/
import Derived.Test.YtjifoimkjgepcaaDoorRows
import GoSem.ClaimSeven
namespace Go.Proofs.YtjifoimkjgepcaaDoor
namespace Rows

/-- THE TIED CARD OF 'laws.FnMatrixBeyond'. -/
def fnMatrixBeyondCard : Claim7 := { stood := { row := fnMatrixBeyondRow, standIns := [], harness := (true, "7a5ab37a683175c8b5fb0e14d9a631dc38464b0c3611272a082adeda26c5b24e"), looks := true }, kinds := [], alts := [], laidByText := true, laidKinds := [.data, .data, .data, .sentinel, .sentinel], laidTests := true, laidLooks := .later }
def FnMatrixBeyondCardSaid : Prop := Claim7.holds Tryd.pinned (.plain (OpenSpec.ofChange fnMatrixBeyondSpec)) fnMatrixBeyondCard

/-- THE TIED CARD OF 'laws.FnMatrixRest'. -/
def fnMatrixRestCard : Claim7 := { stood := { row := fnMatrixRestRow, standIns := [], harness := (true, "7a5ab37a683175c8b5fb0e14d9a631dc38464b0c3611272a082adeda26c5b24e"), looks := true }, kinds := [], alts := [], laidByText := true, laidKinds := [.data, .data, .data, .sentinel, .sentinel], laidTests := true, laidLooks := .later }
def FnMatrixRestCardSaid : Prop := Claim7.holds Tryd.pinned (.plain (OpenSpec.ofChange fnMatrixRestSpec)) fnMatrixRestCard

/-- THE TIED CARD OF 'laws.FnExactTrieRead'. -/
def fnExactTrieReadCard : Claim7 := { stood := { row := fnExactTrieReadRow, standIns := [], harness := (true, "7a5ab37a683175c8b5fb0e14d9a631dc38464b0c3611272a082adeda26c5b24e"), looks := true }, kinds := [], alts := [], laidByText := true, laidKinds := [.sentinel, .sentinel, .sentinel], laidTests := true, laidLooks := .later }
def FnExactTrieReadCardSaid : Prop := Claim7.holds Tryd.pinned (.plain (OpenSpec.ofChange fnExactTrieReadSpec)) fnExactTrieReadCard

/-- THE TIED CARD OF 'laws.FnTrieMany'. -/
def fnTrieManyCard : Claim7 := { stood := { row := fnTrieManyRow, standIns := [], harness := (true, "7a5ab37a683175c8b5fb0e14d9a631dc38464b0c3611272a082adeda26c5b24e"), looks := true }, kinds := [], alts := [], laidByText := true, laidKinds := [.sentinel, .sentinel, .sentinel], laidTests := true, laidLooks := .later }
def FnTrieManyCardSaid : Prop := Claim7.holds Tryd.pinned (.plain (OpenSpec.ofChange fnTrieManySpec)) fnTrieManyCard

/-- THE SECOND FORM's CARD OF 'laws.FnMatrixBeyond'. -/
def fnMatrixBeyondUptoCard : Claim7 := { stood := { row := fnMatrixBeyondUptoRow, standIns := [], harness := (true, "7a5ab37a683175c8b5fb0e14d9a631dc38464b0c3611272a082adeda26c5b24e"), looks := true }, kinds := [], alts := [], laidByText := true, laidKinds := [.data, .data, .data, .sentinel, .sentinel], laidTests := true, laidLooks := .later }
def FnMatrixBeyondUptoCardSaid : Prop := Claim7.holds Tryd.pinned (.plain (OpenSpec.upto fnMatrixBeyondSpec)) fnMatrixBeyondUptoCard

/-- THE SECOND FORM's CARD OF 'laws.FnMatrixRest'. -/
def fnMatrixRestUptoCard : Claim7 := { stood := { row := fnMatrixRestUptoRow, standIns := [], harness := (true, "7a5ab37a683175c8b5fb0e14d9a631dc38464b0c3611272a082adeda26c5b24e"), looks := true }, kinds := [], alts := [], laidByText := true, laidKinds := [.data, .data, .data, .sentinel, .sentinel], laidTests := true, laidLooks := .later }
def FnMatrixRestUptoCardSaid : Prop := Claim7.holds Tryd.pinned (.plain (OpenSpec.upto fnMatrixRestSpec)) fnMatrixRestUptoCard

/-- THE SECOND FORM's CARD OF 'laws.FnExactTrieRead'. -/
def fnExactTrieReadUptoCard : Claim7 := { stood := { row := fnExactTrieReadUptoRow, standIns := [], harness := (true, "7a5ab37a683175c8b5fb0e14d9a631dc38464b0c3611272a082adeda26c5b24e"), looks := true }, kinds := [], alts := [], laidByText := true, laidKinds := [.sentinel, .sentinel, .sentinel], laidTests := true, laidLooks := .later }
def FnExactTrieReadUptoCardSaid : Prop := Claim7.holds Tryd.pinned (.plain (OpenSpec.upto fnExactTrieReadSpec)) fnExactTrieReadUptoCard

/-- THE SECOND FORM's CARD OF 'laws.FnTrieMany'. -/
def fnTrieManyUptoCard : Claim7 := { stood := { row := fnTrieManyUptoRow, standIns := [], harness := (true, "7a5ab37a683175c8b5fb0e14d9a631dc38464b0c3611272a082adeda26c5b24e"), looks := true }, kinds := [], alts := [], laidByText := true, laidKinds := [.sentinel, .sentinel, .sentinel], laidTests := true, laidLooks := .later }
def FnTrieManyUptoCardSaid : Prop := Claim7.holds Tryd.pinned (.plain (OpenSpec.upto fnTrieManySpec)) fnTrieManyUptoCard
end Rows
end Go.Proofs.YtjifoimkjgepcaaDoor
