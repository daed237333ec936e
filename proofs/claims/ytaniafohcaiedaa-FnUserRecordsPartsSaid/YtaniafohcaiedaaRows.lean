/-
  No cell of these rows narrows 'for every input' (looked for: loops, veiled, ifaces, maps, wideKeys, modest, calm, conditions, laid).
  DERIVED. THE GIVEN ROWS OF THIS SEAT. 5 by the template 'for every input the law returns true; each argument reads behind the call as it read before'; 0 by the template 'total and deterministic' (their statements: YtaniafohcaiedaaTotals.lean).
  GIVEN WITH THE SEED: the statements are not yours to turn. If you find one false, say at which input.
  Laid BY PROGRAM, IN A SANDBOX (cutbox-rows.mjs): the forced cells as the released guide's own fill.sh prints them over the translation d0ec50cf204c7a18… (all of the seat's roots in one cut). By AI agents, Wed Nov 11 2026. No macro, syntax, notation, axiom, sorry.
-/
import Derived.Test.YtaniafohcaiedaaChecked
import GoSem.Claim
import GoSem.ClaimJoined
import GoSem.ClaimMapViews
import Derived.JoinedTies
import Derived.KernelRfl
namespace Go.Proofs.Ytaniafohcaiedaa
/- THE CELL 'sum', in the pinned program and in every row, IS THE sha256 OF THE DUMP (.gsa) THAT YtaniafohcaiedaaProg.lean LOADS. Nothing in Lean hashes anything: it is a label: what it is worth is what the hold of that sum in a sandbox is worth. -/
noncomputable def Try.pinned : Pinned := { name := "ytaniafohcaiedaa", sum := "d0ec50cf204c7a187a2fad4450bd466c64600e6879c725030c71a3736005b7ad", checked := Try.checked }
namespace Rows
def none {H : Type} : Left H := { results := [], args := [] }

/-- 'laws.FnMatchNone': WHATEVER THE INPUT: true; the input reads as it did. -/
def fnMatchNoneSpec : ChangeSpec := { name := "fnMatchNone", fn := fun _ => fun
  | [d1, d2] => { results := [.lit (.bool true)], args := [d1, d2] }
  | _ => none }
def fnMatchNoneRow : OpenClaim := { program := "ytaniafohcaiedaa", sum := "d0ec50cf204c7a187a2fad4450bd466c64600e6879c725030c71a3736005b7ad", func := "pub-kaeriten/laws.FnMatchNone", spec := "fnMatchNone", apart := false }
def FnMatchNoneSaid : Prop := fnMatchNoneRow.holds Try.pinned (OpenSpec.ofChange fnMatchNoneSpec)

/-- ITS FALSE NEIGHBOUR: 'it returns false'. Refute it at one input. -/
def fnMatchNoneWrong : ChangeSpec := { name := "fnMatchNone", fn := fun _ => fun
  | [d1, d2] => { results := [.lit (.bool false)], args := [d1, d2] }
  | _ => none }
def FnMatchNoneWrongFalsely : Prop := fnMatchNoneRow.holds Try.pinned (OpenSpec.ofChange fnMatchNoneWrong)

/-- 'laws.FnMatchOrder': WHATEVER THE INPUT: true; the input reads as it did. -/
def fnMatchOrderSpec : ChangeSpec := { name := "fnMatchOrder", fn := fun _ => fun
  | [d1, d2, d3] => { results := [.lit (.bool true)], args := [d1, d2, d3] }
  | _ => none }
def fnMatchOrderRow : OpenClaim := { program := "ytaniafohcaiedaa", sum := "d0ec50cf204c7a187a2fad4450bd466c64600e6879c725030c71a3736005b7ad", func := "pub-kaeriten/laws.FnMatchOrder", spec := "fnMatchOrder", apart := false }
def FnMatchOrderSaid : Prop := fnMatchOrderRow.holds Try.pinned (OpenSpec.ofChange fnMatchOrderSpec)

/-- ITS FALSE NEIGHBOUR: 'it returns false'. Refute it at one input. -/
def fnMatchOrderWrong : ChangeSpec := { name := "fnMatchOrder", fn := fun _ => fun
  | [d1, d2, d3] => { results := [.lit (.bool false)], args := [d1, d2, d3] }
  | _ => none }
def FnMatchOrderWrongFalsely : Prop := fnMatchOrderRow.holds Try.pinned (OpenSpec.ofChange fnMatchOrderWrong)

/-- 'laws.FnUserRecordsParts': WHATEVER THE INPUT: true; the input reads as it did. -/
def fnUserRecordsPartsSpec : ChangeSpec := { name := "fnUserRecordsParts", fn := fun _ => fun
  | [d1, d2, d3] => { results := [.lit (.bool true)], args := [d1, d2, d3] }
  | _ => none }
def fnUserRecordsPartsRow : OpenClaim := { program := "ytaniafohcaiedaa", sum := "d0ec50cf204c7a187a2fad4450bd466c64600e6879c725030c71a3736005b7ad", func := "pub-kaeriten/laws.FnUserRecordsParts", spec := "fnUserRecordsParts", apart := false }
def FnUserRecordsPartsSaid : Prop := fnUserRecordsPartsRow.holds Try.pinned (OpenSpec.ofChange fnUserRecordsPartsSpec)

/-- ITS FALSE NEIGHBOUR: 'it returns false'. Refute it at one input. -/
def fnUserRecordsPartsWrong : ChangeSpec := { name := "fnUserRecordsParts", fn := fun _ => fun
  | [d1, d2, d3] => { results := [.lit (.bool false)], args := [d1, d2, d3] }
  | _ => none }
def FnUserRecordsPartsWrongFalsely : Prop := fnUserRecordsPartsRow.holds Try.pinned (OpenSpec.ofChange fnUserRecordsPartsWrong)

/-- 'laws.FnContentsBytes': WHATEVER THE INPUT: true; the input reads as it did. -/
def fnContentsBytesSpec : ChangeSpec := { name := "fnContentsBytes", fn := fun _ => fun
  | [d] => { results := [.lit (.bool true)], args := [d] }
  | _ => none }
def fnContentsBytesRow : OpenClaim := { program := "ytaniafohcaiedaa", sum := "d0ec50cf204c7a187a2fad4450bd466c64600e6879c725030c71a3736005b7ad", func := "pub-kaeriten/laws.FnContentsBytes", spec := "fnContentsBytes", inPlace := ["internal/abi.NoEscape", "internal/bytealg.MakeNoZero"], unfollowed := true, recurses := true, apart := false }
def FnContentsBytesSaid : Prop := fnContentsBytesRow.holds Try.pinned (OpenSpec.ofChange fnContentsBytesSpec)

/-- ITS FALSE NEIGHBOUR: 'it returns false'. Refute it at one input. -/
def fnContentsBytesWrong : ChangeSpec := { name := "fnContentsBytes", fn := fun _ => fun
  | [d] => { results := [.lit (.bool false)], args := [d] }
  | _ => none }
def FnContentsBytesWrongFalsely : Prop := fnContentsBytesRow.holds Try.pinned (OpenSpec.ofChange fnContentsBytesWrong)

/-- 'laws.FnExactFilterText': WHATEVER THE INPUT: true; the input reads as it did. -/
def fnExactFilterTextSpec : ChangeSpec := { name := "fnExactFilterText", fn := fun _ => fun
  | [d] => { results := [.lit (.bool true)], args := [d] }
  | _ => none }
def fnExactFilterTextRow : OpenClaim := { program := "ytaniafohcaiedaa", sum := "d0ec50cf204c7a187a2fad4450bd466c64600e6879c725030c71a3736005b7ad", func := "pub-kaeriten/laws.FnExactFilterText", spec := "fnExactFilterText", inPlace := ["internal/abi.NoEscape", "internal/bytealg.MakeNoZero"], recurses := true, apart := false }
def FnExactFilterTextSaid : Prop := fnExactFilterTextRow.holds Try.pinned (OpenSpec.ofChange fnExactFilterTextSpec)

/-- ITS FALSE NEIGHBOUR: 'it returns false'. Refute it at one input. -/
def fnExactFilterTextWrong : ChangeSpec := { name := "fnExactFilterText", fn := fun _ => fun
  | [d] => { results := [.lit (.bool false)], args := [d] }
  | _ => none }
def FnExactFilterTextWrongFalsely : Prop := fnExactFilterTextRow.holds Try.pinned (OpenSpec.ofChange fnExactFilterTextWrong)

/- THE SECOND FORM. 'bulk': how many values and letters a reading holds, each counted each time it is reached (what is shared counts as often as it is met; a slice's spare places count too). A statement '..UptoSaid' is the law's where the arguments, and the package variables that the reading takes, are together of bulk at most 1048576: NARROWER than '..Said'. Prove '..Said' where nothing that the law and all that it calls make is longer than what came in: it says more and counts as full. Else prove '..UptoSaid'. A law counts once. -/
mutual
def uptoBulk {H : Type} : DataW H → Nat
  | .lit (.string bytes) => bytes.length + 1
  | .lit _ => 1
  | .nil => 1
  | .ptr d => uptoBulk d + 1
  | .slice elems spare => uptoBulkAll elems + uptoBulkAll spare + 1
  | .agg parts => uptoBulkAll parts + 1
  | .iface _ d => uptoBulk d + 1
  | .map entries => uptoBulkEntries entries + 1
  | .held _ => 1
def uptoBulkAll {H : Type} : List (DataW H) → Nat
  | [] => 0
  | d :: r => uptoBulk d + uptoBulkAll r
def uptoBulkEntries {H : Type} : List (Lit × DataW H) → Nat
  | [] => 0
  | x :: r => uptoBulkEntry x + uptoBulkEntries r
def uptoBulkEntry {H : Type} : Lit × DataW H → Nat
  | (.string bytes, d) => bytes.length + uptoBulk d + 1
  | (_, d) => uptoBulk d + 1
 end
def uptoSmall : (H : Type) → List (DataW H) → Bool := fun _ ds => decide (uptoBulkAll ds ≤ 1048576)
def OpenSpec.upto (s : _root_.Go.ChangeSpec) : _root_.Go.OpenSpec := { _root_.Go.OpenSpec.ofChange s with cond := some uptoSmall }

/-- 'laws.FnMatchNone', WHERE WHAT IT READS IS OF BULK AT MOST 1048576: true; the input reads as it did. -/
def fnMatchNoneUptoRow : OpenClaim := { program := "ytaniafohcaiedaa", sum := "d0ec50cf204c7a187a2fad4450bd466c64600e6879c725030c71a3736005b7ad", func := "pub-kaeriten/laws.FnMatchNone", spec := "fnMatchNone", apart := false, narrowed := true }
def FnMatchNoneUptoSaid : Prop := fnMatchNoneUptoRow.holds Try.pinned (OpenSpec.upto fnMatchNoneSpec)

/-- 'laws.FnMatchOrder', WHERE WHAT IT READS IS OF BULK AT MOST 1048576: true; the input reads as it did. -/
def fnMatchOrderUptoRow : OpenClaim := { program := "ytaniafohcaiedaa", sum := "d0ec50cf204c7a187a2fad4450bd466c64600e6879c725030c71a3736005b7ad", func := "pub-kaeriten/laws.FnMatchOrder", spec := "fnMatchOrder", apart := false, narrowed := true }
def FnMatchOrderUptoSaid : Prop := fnMatchOrderUptoRow.holds Try.pinned (OpenSpec.upto fnMatchOrderSpec)

/-- 'laws.FnUserRecordsParts', WHERE WHAT IT READS IS OF BULK AT MOST 1048576: true; the input reads as it did. -/
def fnUserRecordsPartsUptoRow : OpenClaim := { program := "ytaniafohcaiedaa", sum := "d0ec50cf204c7a187a2fad4450bd466c64600e6879c725030c71a3736005b7ad", func := "pub-kaeriten/laws.FnUserRecordsParts", spec := "fnUserRecordsParts", apart := false, narrowed := true }
def FnUserRecordsPartsUptoSaid : Prop := fnUserRecordsPartsUptoRow.holds Try.pinned (OpenSpec.upto fnUserRecordsPartsSpec)

/-- 'laws.FnContentsBytes', WHERE WHAT IT READS IS OF BULK AT MOST 1048576: true; the input reads as it did. -/
def fnContentsBytesUptoRow : OpenClaim := { program := "ytaniafohcaiedaa", sum := "d0ec50cf204c7a187a2fad4450bd466c64600e6879c725030c71a3736005b7ad", func := "pub-kaeriten/laws.FnContentsBytes", spec := "fnContentsBytes", inPlace := ["internal/abi.NoEscape", "internal/bytealg.MakeNoZero"], unfollowed := true, recurses := true, apart := false, narrowed := true }
def FnContentsBytesUptoSaid : Prop := fnContentsBytesUptoRow.holds Try.pinned (OpenSpec.upto fnContentsBytesSpec)

/-- 'laws.FnExactFilterText', WHERE WHAT IT READS IS OF BULK AT MOST 1048576: true; the input reads as it did. -/
def fnExactFilterTextUptoRow : OpenClaim := { program := "ytaniafohcaiedaa", sum := "d0ec50cf204c7a187a2fad4450bd466c64600e6879c725030c71a3736005b7ad", func := "pub-kaeriten/laws.FnExactFilterText", spec := "fnExactFilterText", inPlace := ["internal/abi.NoEscape", "internal/bytealg.MakeNoZero"], recurses := true, apart := false, narrowed := true }
def FnExactFilterTextUptoSaid : Prop := fnExactFilterTextUptoRow.holds Try.pinned (OpenSpec.upto fnExactFilterTextSpec)

end Rows
end Go.Proofs.Ytaniafohcaiedaa
