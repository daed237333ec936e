/-
  No cell of these rows narrows 'for every input' (looked for: loops, veiled, ifaces, maps, wideKeys, modest, calm, conditions, laid).
  DERIVED. THE GIVEN ROWS OF THIS SEAT. 10 by the template 'for every input the law returns true; each argument reads behind the call as it read before'; 0 by the template 'total and deterministic' (their statements: YtjifoimkjgepcaaTotals.lean).
  GIVEN WITH THE SEED: the statements are not yours to turn. If you find one false, say at which input.
  Laid BY PROGRAM, IN A SANDBOX (cutbox-rows.mjs): the forced cells as the released guide's own fill.sh prints them over the translation 94462ce7d83e6866… (all of the seat's roots in one cut). By AI agents, Wed Nov 11 2026. No macro, syntax, notation, axiom, sorry.
-/
import Derived.Test.YtjifoimkjgepcaaChecked
import GoSem.Claim
import GoSem.ClaimJoined
import GoSem.ClaimMapViews
import Derived.JoinedTies
import Derived.KernelRfl
namespace Go.Proofs.Ytjifoimkjgepcaa
/- THE CELL 'sum', in the pinned program and in every row, IS THE sha256 OF THE DUMP (.gsa) THAT YtjifoimkjgepcaaProg.lean LOADS. Nothing in Lean hashes anything: it is a label: what it is worth is what the hold of that sum in a sandbox is worth. -/
noncomputable def Try.pinned : Pinned := { name := "ytjifoimkjgepcaa", sum := "94462ce7d83e6866aae0ab80869608fcec713f40590ce0409357d8a4247c77c1", checked := Try.checked }
namespace Rows
def none {H : Type} : Left H := { results := [], args := [] }

/-- 'laws.FnExactFilterText': WHATEVER THE INPUT: true; the input reads as it did. -/
def fnExactFilterTextSpec : ChangeSpec := { name := "fnExactFilterText", fn := fun _ => fun
  | [d] => { results := [.lit (.bool true)], args := [d] }
  | _ => none }
def fnExactFilterTextRow : OpenClaim := { program := "ytjifoimkjgepcaa", sum := "94462ce7d83e6866aae0ab80869608fcec713f40590ce0409357d8a4247c77c1", func := "pub-kaeriten/laws.FnExactFilterText", spec := "fnExactFilterText", inPlace := ["internal/abi.NoEscape", "internal/bytealg.MakeNoZero"], recurses := true, apart := false }
def FnExactFilterTextSaid : Prop := fnExactFilterTextRow.holds Try.pinned (OpenSpec.ofChange fnExactFilterTextSpec)

/-- ITS FALSE NEIGHBOUR: 'it returns false'. Refute it at one input. -/
def fnExactFilterTextWrong : ChangeSpec := { name := "fnExactFilterText", fn := fun _ => fun
  | [d] => { results := [.lit (.bool false)], args := [d] }
  | _ => none }
def FnExactFilterTextWrongFalsely : Prop := fnExactFilterTextRow.holds Try.pinned (OpenSpec.ofChange fnExactFilterTextWrong)

/-- 'laws.FnTrieAlone': WHATEVER THE INPUT: true; the input reads as it did. -/
def fnTrieAloneSpec : ChangeSpec := { name := "fnTrieAlone", fn := fun _ => fun
  | [d1, d2, d3] => { results := [.lit (.bool true)], args := [d1, d2, d3] }
  | _ => none }
def fnTrieAloneRow : OpenClaim := { program := "ytjifoimkjgepcaa", sum := "94462ce7d83e6866aae0ab80869608fcec713f40590ce0409357d8a4247c77c1", func := "pub-kaeriten/laws.FnTrieAlone", spec := "fnTrieAlone", unfollowed := true, recurses := true, apart := false }
def FnTrieAloneSaid : Prop := fnTrieAloneRow.holds Try.pinned (OpenSpec.ofChange fnTrieAloneSpec)

/-- ITS FALSE NEIGHBOUR: 'it returns false'. Refute it at one input. -/
def fnTrieAloneWrong : ChangeSpec := { name := "fnTrieAlone", fn := fun _ => fun
  | [d1, d2, d3] => { results := [.lit (.bool false)], args := [d1, d2, d3] }
  | _ => none }
def FnTrieAloneWrongFalsely : Prop := fnTrieAloneRow.holds Try.pinned (OpenSpec.ofChange fnTrieAloneWrong)

/-- 'laws.FnTrieEmpty': WHATEVER THE INPUT: true; the input reads as it did. -/
def fnTrieEmptySpec : ChangeSpec := { name := "fnTrieEmpty", fn := fun _ => fun
  | [d1, d2] => { results := [.lit (.bool true)], args := [d1, d2] }
  | _ => none }
def fnTrieEmptyRow : OpenClaim := { program := "ytjifoimkjgepcaa", sum := "94462ce7d83e6866aae0ab80869608fcec713f40590ce0409357d8a4247c77c1", func := "pub-kaeriten/laws.FnTrieEmpty", spec := "fnTrieEmpty", unfollowed := true, recurses := true, apart := false }
def FnTrieEmptySaid : Prop := fnTrieEmptyRow.holds Try.pinned (OpenSpec.ofChange fnTrieEmptySpec)

/-- ITS FALSE NEIGHBOUR: 'it returns false'. Refute it at one input. -/
def fnTrieEmptyWrong : ChangeSpec := { name := "fnTrieEmpty", fn := fun _ => fun
  | [d1, d2] => { results := [.lit (.bool false)], args := [d1, d2] }
  | _ => none }
def FnTrieEmptyWrongFalsely : Prop := fnTrieEmptyRow.holds Try.pinned (OpenSpec.ofChange fnTrieEmptyWrong)

/-- 'laws.FnTrieMisses': WHATEVER THE INPUT: true; the input reads as it did. -/
def fnTrieMissesSpec : ChangeSpec := { name := "fnTrieMisses", fn := fun _ => fun
  | [d1, d2, d3] => { results := [.lit (.bool true)], args := [d1, d2, d3] }
  | _ => none }
def fnTrieMissesRow : OpenClaim := { program := "ytjifoimkjgepcaa", sum := "94462ce7d83e6866aae0ab80869608fcec713f40590ce0409357d8a4247c77c1", func := "pub-kaeriten/laws.FnTrieMisses", spec := "fnTrieMisses", unfollowed := true, recurses := true, apart := false }
def FnTrieMissesSaid : Prop := fnTrieMissesRow.holds Try.pinned (OpenSpec.ofChange fnTrieMissesSpec)

/-- ITS FALSE NEIGHBOUR: 'it returns false'. Refute it at one input. -/
def fnTrieMissesWrong : ChangeSpec := { name := "fnTrieMisses", fn := fun _ => fun
  | [d1, d2, d3] => { results := [.lit (.bool false)], args := [d1, d2, d3] }
  | _ => none }
def FnTrieMissesWrongFalsely : Prop := fnTrieMissesRow.holds Try.pinned (OpenSpec.ofChange fnTrieMissesWrong)

/-- 'laws.FnTrieTwice': WHATEVER THE INPUT: true; the input reads as it did. -/
def fnTrieTwiceSpec : ChangeSpec := { name := "fnTrieTwice", fn := fun _ => fun
  | [d1, d2] => { results := [.lit (.bool true)], args := [d1, d2] }
  | _ => none }
def fnTrieTwiceRow : OpenClaim := { program := "ytjifoimkjgepcaa", sum := "94462ce7d83e6866aae0ab80869608fcec713f40590ce0409357d8a4247c77c1", func := "pub-kaeriten/laws.FnTrieTwice", spec := "fnTrieTwice", unfollowed := true, recurses := true, apart := false }
def FnTrieTwiceSaid : Prop := fnTrieTwiceRow.holds Try.pinned (OpenSpec.ofChange fnTrieTwiceSpec)

/-- ITS FALSE NEIGHBOUR: 'it returns false'. Refute it at one input. -/
def fnTrieTwiceWrong : ChangeSpec := { name := "fnTrieTwice", fn := fun _ => fun
  | [d1, d2] => { results := [.lit (.bool false)], args := [d1, d2] }
  | _ => none }
def FnTrieTwiceWrongFalsely : Prop := fnTrieTwiceRow.holds Try.pinned (OpenSpec.ofChange fnTrieTwiceWrong)

/-- 'laws.FnTrieWithout': WHATEVER THE INPUT: true; the input reads as it did. -/
def fnTrieWithoutSpec : ChangeSpec := { name := "fnTrieWithout", fn := fun _ => fun
  | [d1, d2, d3, d4] => { results := [.lit (.bool true)], args := [d1, d2, d3, d4] }
  | _ => none }
def fnTrieWithoutRow : OpenClaim := { program := "ytjifoimkjgepcaa", sum := "94462ce7d83e6866aae0ab80869608fcec713f40590ce0409357d8a4247c77c1", func := "pub-kaeriten/laws.FnTrieWithout", spec := "fnTrieWithout", unfollowed := true, recurses := true, apart := false }
def FnTrieWithoutSaid : Prop := fnTrieWithoutRow.holds Try.pinned (OpenSpec.ofChange fnTrieWithoutSpec)

/-- ITS FALSE NEIGHBOUR: 'it returns false'. Refute it at one input. -/
def fnTrieWithoutWrong : ChangeSpec := { name := "fnTrieWithout", fn := fun _ => fun
  | [d1, d2, d3, d4] => { results := [.lit (.bool false)], args := [d1, d2, d3, d4] }
  | _ => none }
def FnTrieWithoutWrongFalsely : Prop := fnTrieWithoutRow.holds Try.pinned (OpenSpec.ofChange fnTrieWithoutWrong)

/-- 'laws.FnIndexTwice': WHATEVER THE INPUT: true; the input reads as it did. -/
def fnIndexTwiceSpec : ChangeSpec := { name := "fnIndexTwice", fn := fun _ => fun
  | [d1, d2] => { results := [.lit (.bool true)], args := [d1, d2] }
  | _ => none }
def fnIndexTwiceRow : OpenClaim := { program := "ytjifoimkjgepcaa", sum := "94462ce7d83e6866aae0ab80869608fcec713f40590ce0409357d8a4247c77c1", func := "pub-kaeriten/laws.FnIndexTwice", spec := "fnIndexTwice", unfollowed := true, recurses := true, apart := false }
def FnIndexTwiceSaid : Prop := fnIndexTwiceRow.holds Try.pinned (OpenSpec.ofChange fnIndexTwiceSpec)

/-- ITS FALSE NEIGHBOUR: 'it returns false'. Refute it at one input. -/
def fnIndexTwiceWrong : ChangeSpec := { name := "fnIndexTwice", fn := fun _ => fun
  | [d1, d2] => { results := [.lit (.bool false)], args := [d1, d2] }
  | _ => none }
def FnIndexTwiceWrongFalsely : Prop := fnIndexTwiceRow.holds Try.pinned (OpenSpec.ofChange fnIndexTwiceWrong)

/-- 'laws.FnTrieArg': WHATEVER THE INPUT: true; the input reads as it did. -/
def fnTrieArgSpec : ChangeSpec := { name := "fnTrieArg", fn := fun _ => fun
  | [d1, d2] => { results := [.lit (.bool true)], args := [d1, d2] }
  | _ => none }
def fnTrieArgRow : OpenClaim := { program := "ytjifoimkjgepcaa", sum := "94462ce7d83e6866aae0ab80869608fcec713f40590ce0409357d8a4247c77c1", func := "pub-kaeriten/laws.FnTrieArg", spec := "fnTrieArg", unfollowed := true, recurses := true, apart := false }
def FnTrieArgSaid : Prop := fnTrieArgRow.holds Try.pinned (OpenSpec.ofChange fnTrieArgSpec)

/-- ITS FALSE NEIGHBOUR: 'it returns false'. Refute it at one input. -/
def fnTrieArgWrong : ChangeSpec := { name := "fnTrieArg", fn := fun _ => fun
  | [d1, d2] => { results := [.lit (.bool false)], args := [d1, d2] }
  | _ => none }
def FnTrieArgWrongFalsely : Prop := fnTrieArgRow.holds Try.pinned (OpenSpec.ofChange fnTrieArgWrong)

/-- 'laws.FnTrieBytesForm': WHATEVER THE INPUT: true; the input reads as it did. -/
def fnTrieBytesFormSpec : ChangeSpec := { name := "fnTrieBytesForm", fn := fun _ => fun
  | [d1, d2] => { results := [.lit (.bool true)], args := [d1, d2] }
  | _ => none }
def fnTrieBytesFormRow : OpenClaim := { program := "ytjifoimkjgepcaa", sum := "94462ce7d83e6866aae0ab80869608fcec713f40590ce0409357d8a4247c77c1", func := "pub-kaeriten/laws.FnTrieBytesForm", spec := "fnTrieBytesForm", unfollowed := true, recurses := true, apart := false }
def FnTrieBytesFormSaid : Prop := fnTrieBytesFormRow.holds Try.pinned (OpenSpec.ofChange fnTrieBytesFormSpec)

/-- ITS FALSE NEIGHBOUR: 'it returns false'. Refute it at one input. -/
def fnTrieBytesFormWrong : ChangeSpec := { name := "fnTrieBytesForm", fn := fun _ => fun
  | [d1, d2] => { results := [.lit (.bool false)], args := [d1, d2] }
  | _ => none }
def FnTrieBytesFormWrongFalsely : Prop := fnTrieBytesFormRow.holds Try.pinned (OpenSpec.ofChange fnTrieBytesFormWrong)

/-- 'laws.FnIndexUnsorted': WHATEVER THE INPUT: true; the input reads as it did. -/
def fnIndexUnsortedSpec : ChangeSpec := { name := "fnIndexUnsorted", fn := fun _ => fun
  | [d] => { results := [.lit (.bool true)], args := [d] }
  | _ => none }
def fnIndexUnsortedRow : OpenClaim := { program := "ytjifoimkjgepcaa", sum := "94462ce7d83e6866aae0ab80869608fcec713f40590ce0409357d8a4247c77c1", func := "pub-kaeriten/laws.FnIndexUnsorted", spec := "fnIndexUnsorted", unfollowed := true, recurses := true, apart := false }
def FnIndexUnsortedSaid : Prop := fnIndexUnsortedRow.holds Try.pinned (OpenSpec.ofChange fnIndexUnsortedSpec)

/-- ITS FALSE NEIGHBOUR: 'it returns false'. Refute it at one input. -/
def fnIndexUnsortedWrong : ChangeSpec := { name := "fnIndexUnsorted", fn := fun _ => fun
  | [d] => { results := [.lit (.bool false)], args := [d] }
  | _ => none }
def FnIndexUnsortedWrongFalsely : Prop := fnIndexUnsortedRow.holds Try.pinned (OpenSpec.ofChange fnIndexUnsortedWrong)

/- THE SECOND FORM. 'bulk': how many values and letters a reading holds, each counted each time it is reached (what is shared counts as often as it is met; a slice's spare places count too). A statement '..UptoSaid' is the law's where the arguments, and the package variables that the reading takes, are together of bulk at most 1048576: NARROWER than '..Said'. Prove '..Said' where nothing that the law and all that it calls make is longer than what came in: it says more and counts as full. Else prove '..UptoSaid'. A law counts once. -/
mutual
def uptoBulk {H : Type} : DataW H → Nat
  | .lit (.string bytes) => bytes.length + 1
  | .lit _ => 1
  | .nil => 1
  | .ptr d => uptoBulk d + 1
  | .slice elems spare => uptoBulkAll elems + uptoBulkAll spare + 1
  | .agg parts => uptoBulkAll parts + 1
  | .iface _ d => uptoBulk d + 1
  | .map entries => uptoBulkEntries entries + 1
  | .held _ => 1
def uptoBulkAll {H : Type} : List (DataW H) → Nat
  | [] => 0
  | d :: r => uptoBulk d + uptoBulkAll r
def uptoBulkEntries {H : Type} : List (Lit × DataW H) → Nat
  | [] => 0
  | x :: r => uptoBulkEntry x + uptoBulkEntries r
def uptoBulkEntry {H : Type} : Lit × DataW H → Nat
  | (.string bytes, d) => bytes.length + uptoBulk d + 1
  | (_, d) => uptoBulk d + 1
 end
def uptoSmall : (H : Type) → List (DataW H) → Bool := fun _ ds => decide (uptoBulkAll ds ≤ 1048576)
def OpenSpec.upto (s : _root_.Go.ChangeSpec) : _root_.Go.OpenSpec := { _root_.Go.OpenSpec.ofChange s with cond := some uptoSmall }

/-- 'laws.FnExactFilterText', WHERE WHAT IT READS IS OF BULK AT MOST 1048576: true; the input reads as it did. -/
def fnExactFilterTextUptoRow : OpenClaim := { program := "ytjifoimkjgepcaa", sum := "94462ce7d83e6866aae0ab80869608fcec713f40590ce0409357d8a4247c77c1", func := "pub-kaeriten/laws.FnExactFilterText", spec := "fnExactFilterText", inPlace := ["internal/abi.NoEscape", "internal/bytealg.MakeNoZero"], recurses := true, apart := false, narrowed := true }
def FnExactFilterTextUptoSaid : Prop := fnExactFilterTextUptoRow.holds Try.pinned (OpenSpec.upto fnExactFilterTextSpec)

/-- 'laws.FnTrieAlone', WHERE WHAT IT READS IS OF BULK AT MOST 1048576: true; the input reads as it did. -/
def fnTrieAloneUptoRow : OpenClaim := { program := "ytjifoimkjgepcaa", sum := "94462ce7d83e6866aae0ab80869608fcec713f40590ce0409357d8a4247c77c1", func := "pub-kaeriten/laws.FnTrieAlone", spec := "fnTrieAlone", unfollowed := true, recurses := true, apart := false, narrowed := true }
def FnTrieAloneUptoSaid : Prop := fnTrieAloneUptoRow.holds Try.pinned (OpenSpec.upto fnTrieAloneSpec)

/-- 'laws.FnTrieEmpty', WHERE WHAT IT READS IS OF BULK AT MOST 1048576: true; the input reads as it did. -/
def fnTrieEmptyUptoRow : OpenClaim := { program := "ytjifoimkjgepcaa", sum := "94462ce7d83e6866aae0ab80869608fcec713f40590ce0409357d8a4247c77c1", func := "pub-kaeriten/laws.FnTrieEmpty", spec := "fnTrieEmpty", unfollowed := true, recurses := true, apart := false, narrowed := true }
def FnTrieEmptyUptoSaid : Prop := fnTrieEmptyUptoRow.holds Try.pinned (OpenSpec.upto fnTrieEmptySpec)

/-- 'laws.FnTrieMisses', WHERE WHAT IT READS IS OF BULK AT MOST 1048576: true; the input reads as it did. -/
def fnTrieMissesUptoRow : OpenClaim := { program := "ytjifoimkjgepcaa", sum := "94462ce7d83e6866aae0ab80869608fcec713f40590ce0409357d8a4247c77c1", func := "pub-kaeriten/laws.FnTrieMisses", spec := "fnTrieMisses", unfollowed := true, recurses := true, apart := false, narrowed := true }
def FnTrieMissesUptoSaid : Prop := fnTrieMissesUptoRow.holds Try.pinned (OpenSpec.upto fnTrieMissesSpec)

/-- 'laws.FnTrieTwice', WHERE WHAT IT READS IS OF BULK AT MOST 1048576: true; the input reads as it did. -/
def fnTrieTwiceUptoRow : OpenClaim := { program := "ytjifoimkjgepcaa", sum := "94462ce7d83e6866aae0ab80869608fcec713f40590ce0409357d8a4247c77c1", func := "pub-kaeriten/laws.FnTrieTwice", spec := "fnTrieTwice", unfollowed := true, recurses := true, apart := false, narrowed := true }
def FnTrieTwiceUptoSaid : Prop := fnTrieTwiceUptoRow.holds Try.pinned (OpenSpec.upto fnTrieTwiceSpec)

/-- 'laws.FnTrieWithout', WHERE WHAT IT READS IS OF BULK AT MOST 1048576: true; the input reads as it did. -/
def fnTrieWithoutUptoRow : OpenClaim := { program := "ytjifoimkjgepcaa", sum := "94462ce7d83e6866aae0ab80869608fcec713f40590ce0409357d8a4247c77c1", func := "pub-kaeriten/laws.FnTrieWithout", spec := "fnTrieWithout", unfollowed := true, recurses := true, apart := false, narrowed := true }
def FnTrieWithoutUptoSaid : Prop := fnTrieWithoutUptoRow.holds Try.pinned (OpenSpec.upto fnTrieWithoutSpec)

/-- 'laws.FnIndexTwice', WHERE WHAT IT READS IS OF BULK AT MOST 1048576: true; the input reads as it did. -/
def fnIndexTwiceUptoRow : OpenClaim := { program := "ytjifoimkjgepcaa", sum := "94462ce7d83e6866aae0ab80869608fcec713f40590ce0409357d8a4247c77c1", func := "pub-kaeriten/laws.FnIndexTwice", spec := "fnIndexTwice", unfollowed := true, recurses := true, apart := false, narrowed := true }
def FnIndexTwiceUptoSaid : Prop := fnIndexTwiceUptoRow.holds Try.pinned (OpenSpec.upto fnIndexTwiceSpec)

/-- 'laws.FnTrieArg', WHERE WHAT IT READS IS OF BULK AT MOST 1048576: true; the input reads as it did. -/
def fnTrieArgUptoRow : OpenClaim := { program := "ytjifoimkjgepcaa", sum := "94462ce7d83e6866aae0ab80869608fcec713f40590ce0409357d8a4247c77c1", func := "pub-kaeriten/laws.FnTrieArg", spec := "fnTrieArg", unfollowed := true, recurses := true, apart := false, narrowed := true }
def FnTrieArgUptoSaid : Prop := fnTrieArgUptoRow.holds Try.pinned (OpenSpec.upto fnTrieArgSpec)

/-- 'laws.FnTrieBytesForm', WHERE WHAT IT READS IS OF BULK AT MOST 1048576: true; the input reads as it did. -/
def fnTrieBytesFormUptoRow : OpenClaim := { program := "ytjifoimkjgepcaa", sum := "94462ce7d83e6866aae0ab80869608fcec713f40590ce0409357d8a4247c77c1", func := "pub-kaeriten/laws.FnTrieBytesForm", spec := "fnTrieBytesForm", unfollowed := true, recurses := true, apart := false, narrowed := true }
def FnTrieBytesFormUptoSaid : Prop := fnTrieBytesFormUptoRow.holds Try.pinned (OpenSpec.upto fnTrieBytesFormSpec)

/-- 'laws.FnIndexUnsorted', WHERE WHAT IT READS IS OF BULK AT MOST 1048576: true; the input reads as it did. -/
def fnIndexUnsortedUptoRow : OpenClaim := { program := "ytjifoimkjgepcaa", sum := "94462ce7d83e6866aae0ab80869608fcec713f40590ce0409357d8a4247c77c1", func := "pub-kaeriten/laws.FnIndexUnsorted", spec := "fnIndexUnsorted", unfollowed := true, recurses := true, apart := false, narrowed := true }
def FnIndexUnsortedUptoSaid : Prop := fnIndexUnsortedUptoRow.holds Try.pinned (OpenSpec.upto fnIndexUnsortedSpec)

end Rows
end Go.Proofs.Ytjifoimkjgepcaa
