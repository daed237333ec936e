/-
  NARROWER THAN 'FOR EVERY INPUT', by the rows' own cells (each row's printed sentence says how): FnConnectionAt: laid · FnExactMorphBytes: laid · FnMorphBack: laid · FnModeNames: laid · FnSentencesCut: laid · FnSentencesTwo: laid · FnScanEmpty: laid · FnScanPieces: laid · FnMetaBack: laid.
  DERIVED. THE GIVEN ROWS OF THIS SEAT. 9 by the template 'for every input the law returns true; each argument reads behind the call as it read before'; 0 by the template 'total and deterministic' (their statements: YtaniafohcaiedaaDoorTotals.lean).
  GIVEN WITH THE SEED: the statements are not yours to turn. If you find one false, say at which input.
  Laid BY PROGRAM, IN A SANDBOX (cutbox-rows.mjs): the forced cells as the released guide's own fill.sh prints them over the translation 290db7ed38ea1475… (all of the seat's roots in one cut). By AI agents, Wed Nov 11 2026. No macro, syntax, notation, axiom, sorry.
-/
import Derived.Test.YtaniafohcaiedaaDoorChecked
import GoSem.PinnedTables
import GoSem.Claim
import GoSem.ClaimJoined
import GoSem.ClaimMapViews
import Derived.JoinedTies
import Derived.KernelRfl
namespace Go.Proofs.YtaniafohcaiedaaDoor
/- THE CELL 'sum', in the pinned program and in every row, IS THE sha256 OF THE DUMP (.gsa) THAT YtaniafohcaiedaaDoorProg.lean LOADS. Nothing in Lean hashes anything: it is a label: what it is worth is what the hold of that sum in a sandbox is worth. -/
noncomputable def Tryd.pinned : Pinned := { name := "ytaniafohcaiedaadoor", sum := "290db7ed38ea1475e5f152ba7a529e62df77a180549fbe10c93a4cf21918e9f9", checked := Tryd.checked }
namespace Rows
def none {H : Type} : Left H := { results := [], args := [] }

/- WHAT THE LISTED PACKAGE-LEVEL VARIABLES READ AS WHEN THE CALL BEGINS. Each datum BY PROGRAM (the guide's laid-datum.mjs) off the statement by which the dump's own 'gosem.cut.vars' lays the variable. In a bare row this is a premise. The card (YtaniafohcaiedaaDoorCards.lean) ties it to the program's text. -/
def laid_io_ErrShortBuffer {H : Type} : DataW H := .iface "*errors.errorString" (.ptr (.agg [.lit (.string [115, 104, 111, 114, 116, 32, 98, 117, 102, 102, 101, 114])]))
def laid_io_EOF {H : Type} : DataW H := .iface "*errors.errorString" (.ptr (.agg [.lit (.string [69, 79, 70])]))
def laid_io_ErrUnexpectedEOF {H : Type} : DataW H := .iface "*errors.errorString" (.ptr (.agg [.lit (.string [117, 110, 101, 120, 112, 101, 99, 116, 101, 100, 32, 69, 79, 70])]))
def laid_math_bits_deBruijn32tab {H : Type} : DataW H := .agg [.lit (.int .u8 0), .lit (.int .u8 1), .lit (.int .u8 28), .lit (.int .u8 2), .lit (.int .u8 29), .lit (.int .u8 14), .lit (.int .u8 24), .lit (.int .u8 3), .lit (.int .u8 30), .lit (.int .u8 22), .lit (.int .u8 20), .lit (.int .u8 15), .lit (.int .u8 25), .lit (.int .u8 17), .lit (.int .u8 4), .lit (.int .u8 8), .lit (.int .u8 31), .lit (.int .u8 27), .lit (.int .u8 13), .lit (.int .u8 23), .lit (.int .u8 21), .lit (.int .u8 19), .lit (.int .u8 16), .lit (.int .u8 7), .lit (.int .u8 26), .lit (.int .u8 12), .lit (.int .u8 18), .lit (.int .u8 6), .lit (.int .u8 11), .lit (.int .u8 5), .lit (.int .u8 10), .lit (.int .u8 9)]
def laid_math_bits_deBruijn64tab {H : Type} : DataW H := .agg [.lit (.int .u8 0), .lit (.int .u8 1), .lit (.int .u8 56), .lit (.int .u8 2), .lit (.int .u8 57), .lit (.int .u8 49), .lit (.int .u8 28), .lit (.int .u8 3), .lit (.int .u8 61), .lit (.int .u8 58), .lit (.int .u8 42), .lit (.int .u8 50), .lit (.int .u8 38), .lit (.int .u8 29), .lit (.int .u8 17), .lit (.int .u8 4), .lit (.int .u8 62), .lit (.int .u8 47), .lit (.int .u8 59), .lit (.int .u8 36), .lit (.int .u8 45), .lit (.int .u8 43), .lit (.int .u8 51), .lit (.int .u8 22), .lit (.int .u8 53), .lit (.int .u8 39), .lit (.int .u8 33), .lit (.int .u8 30), .lit (.int .u8 24), .lit (.int .u8 18), .lit (.int .u8 12), .lit (.int .u8 5), .lit (.int .u8 63), .lit (.int .u8 55), .lit (.int .u8 48), .lit (.int .u8 27), .lit (.int .u8 60), .lit (.int .u8 41), .lit (.int .u8 37), .lit (.int .u8 16), .lit (.int .u8 46), .lit (.int .u8 35), .lit (.int .u8 44), .lit (.int .u8 21), .lit (.int .u8 52), .lit (.int .u8 32), .lit (.int .u8 23), .lit (.int .u8 11), .lit (.int .u8 54), .lit (.int .u8 26), .lit (.int .u8 40), .lit (.int .u8 15), .lit (.int .u8 34), .lit (.int .u8 20), .lit (.int .u8 31), .lit (.int .u8 10), .lit (.int .u8 25), .lit (.int .u8 14), .lit (.int .u8 19), .lit (.int .u8 9), .lit (.int .u8 13), .lit (.int .u8 8), .lit (.int .u8 7), .lit (.int .u8 6)]
def laid_internal_strconv_uint64pow10 {H : Type} : DataW H := .agg [.lit (.int .u64 1), .lit (.int .u64 10), .lit (.int .u64 100), .lit (.int .u64 1000), .lit (.int .u64 10000), .lit (.int .u64 100000), .lit (.int .u64 1000000), .lit (.int .u64 10000000), .lit (.int .u64 100000000), .lit (.int .u64 1000000000), .lit (.int .u64 10000000000), .lit (.int .u64 100000000000), .lit (.int .u64 1000000000000), .lit (.int .u64 10000000000000), .lit (.int .u64 100000000000000), .lit (.int .u64 1000000000000000), .lit (.int .u64 10000000000000000), .lit (.int .u64 100000000000000000), .lit (.int .u64 1000000000000000000), .lit (.int .u64 10000000000000000000)]
def laid_unicode_utf8_acceptRanges {H : Type} : DataW H := .agg [.agg [.lit (.int .u8 128), .lit (.int .u8 191)], .agg [.lit (.int .u8 160), .lit (.int .u8 191)], .agg [.lit (.int .u8 128), .lit (.int .u8 159)], .agg [.lit (.int .u8 144), .lit (.int .u8 191)], .agg [.lit (.int .u8 128), .lit (.int .u8 143)], .agg [.lit (.int .u8 0), .lit (.int .u8 0)], .agg [.lit (.int .u8 0), .lit (.int .u8 0)], .agg [.lit (.int .u8 0), .lit (.int .u8 0)], .agg [.lit (.int .u8 0), .lit (.int .u8 0)], .agg [.lit (.int .u8 0), .lit (.int .u8 0)], .agg [.lit (.int .u8 0), .lit (.int .u8 0)], .agg [.lit (.int .u8 0), .lit (.int .u8 0)], .agg [.lit (.int .u8 0), .lit (.int .u8 0)], .agg [.lit (.int .u8 0), .lit (.int .u8 0)], .agg [.lit (.int .u8 0), .lit (.int .u8 0)], .agg [.lit (.int .u8 0), .lit (.int .u8 0)]]
def laid_unicode_White_Space {H : Type} : DataW H := .ptr (.agg [.slice [.agg [.lit (.int .u16 9), .lit (.int .u16 13), .lit (.int .u16 1)], .agg [.lit (.int .u16 32), .lit (.int .u16 133), .lit (.int .u16 101)], .agg [.lit (.int .u16 160), .lit (.int .u16 5760), .lit (.int .u16 5600)], .agg [.lit (.int .u16 8192), .lit (.int .u16 8202), .lit (.int .u16 1)], .agg [.lit (.int .u16 8232), .lit (.int .u16 8233), .lit (.int .u16 1)], .agg [.lit (.int .u16 8239), .lit (.int .u16 8287), .lit (.int .u16 48)], .agg [.lit (.int .u16 12288), .lit (.int .u16 12288), .lit (.int .u16 1)]] [], .nil, .lit (.int .i64 2)])
/-- One of Go's own tables, pinned by name: the form's constant. -/
def laid_unicode_utf8_first : DataW Unit := Go.Pinned.utf8First

/-- 'laws.FnConnectionAt': WHATEVER THE INPUT: true; the input reads as it did. -/
def fnConnectionAtSpec : ChangeSpec := { name := "fnConnectionAt", fn := fun _ => fun
  | [d1, d2, d3, d4, d5] => { results := [.lit (.bool true)], args := [d1, d2, d3, d4, d5] }
  | _ => none }
def fnConnectionAtRow : OpenClaim := { program := "ytaniafohcaiedaadoor", sum := "290db7ed38ea1475e5f152ba7a529e62df77a180549fbe10c93a4cf21918e9f9", func := "pub-kaeriten/laws.FnConnectionAt", spec := "fnConnectionAt", unfollowed := true, recurses := true, named := ["io.ErrShortBuffer", "io.EOF", "io.ErrUnexpectedEOF"], apart := false, laid := [("io.ErrShortBuffer", laid_io_ErrShortBuffer), ("io.EOF", laid_io_EOF), ("io.ErrUnexpectedEOF", laid_io_ErrUnexpectedEOF)] }
def FnConnectionAtSaid : Prop := fnConnectionAtRow.holds Tryd.pinned (OpenSpec.ofChange fnConnectionAtSpec)

/-- ITS FALSE NEIGHBOUR: 'it returns false'. Refute it at one input. -/
def fnConnectionAtWrong : ChangeSpec := { name := "fnConnectionAt", fn := fun _ => fun
  | [d1, d2, d3, d4, d5] => { results := [.lit (.bool false)], args := [d1, d2, d3, d4, d5] }
  | _ => none }
def FnConnectionAtWrongFalsely : Prop := fnConnectionAtRow.holds Tryd.pinned (OpenSpec.ofChange fnConnectionAtWrong)

/-- 'laws.FnExactMorphBytes': WHATEVER THE INPUT: true; the input reads as it did. -/
def fnExactMorphBytesSpec : ChangeSpec := { name := "fnExactMorphBytes", fn := fun _ => fun
  | [d] => { results := [.lit (.bool true)], args := [d] }
  | _ => none }
def fnExactMorphBytesRow : OpenClaim := { program := "ytaniafohcaiedaadoor", sum := "290db7ed38ea1475e5f152ba7a529e62df77a180549fbe10c93a4cf21918e9f9", func := "pub-kaeriten/laws.FnExactMorphBytes", spec := "fnExactMorphBytes", unfollowed := true, recurses := true, named := ["io.ErrShortBuffer", "io.EOF", "io.ErrUnexpectedEOF"], apart := false, laid := [("io.ErrShortBuffer", laid_io_ErrShortBuffer), ("io.EOF", laid_io_EOF), ("io.ErrUnexpectedEOF", laid_io_ErrUnexpectedEOF)] }
def FnExactMorphBytesSaid : Prop := fnExactMorphBytesRow.holds Tryd.pinned (OpenSpec.ofChange fnExactMorphBytesSpec)

/-- ITS FALSE NEIGHBOUR: 'it returns false'. Refute it at one input. -/
def fnExactMorphBytesWrong : ChangeSpec := { name := "fnExactMorphBytes", fn := fun _ => fun
  | [d] => { results := [.lit (.bool false)], args := [d] }
  | _ => none }
def FnExactMorphBytesWrongFalsely : Prop := fnExactMorphBytesRow.holds Tryd.pinned (OpenSpec.ofChange fnExactMorphBytesWrong)

/-- 'laws.FnMorphBack': WHATEVER THE INPUT: true; the input reads as it did. -/
def fnMorphBackSpec : ChangeSpec := { name := "fnMorphBack", fn := fun _ => fun
  | [d] => { results := [.lit (.bool true)], args := [d] }
  | _ => none }
def fnMorphBackRow : OpenClaim := { program := "ytaniafohcaiedaadoor", sum := "290db7ed38ea1475e5f152ba7a529e62df77a180549fbe10c93a4cf21918e9f9", func := "pub-kaeriten/laws.FnMorphBack", spec := "fnMorphBack", unfollowed := true, recurses := true, named := ["io.ErrShortBuffer", "io.EOF", "io.ErrUnexpectedEOF"], apart := false, laid := [("io.ErrShortBuffer", laid_io_ErrShortBuffer), ("io.EOF", laid_io_EOF), ("io.ErrUnexpectedEOF", laid_io_ErrUnexpectedEOF)] }
def FnMorphBackSaid : Prop := fnMorphBackRow.holds Tryd.pinned (OpenSpec.ofChange fnMorphBackSpec)

/-- ITS FALSE NEIGHBOUR: 'it returns false'. Refute it at one input. -/
def fnMorphBackWrong : ChangeSpec := { name := "fnMorphBack", fn := fun _ => fun
  | [d] => { results := [.lit (.bool false)], args := [d] }
  | _ => none }
def FnMorphBackWrongFalsely : Prop := fnMorphBackRow.holds Tryd.pinned (OpenSpec.ofChange fnMorphBackWrong)

/-- 'laws.FnModeNames': WHATEVER THE INPUT: true; the input reads as it did. -/
def fnModeNamesSpec : ChangeSpec := { name := "fnModeNames", fn := fun _ => fun
  | [d] => { results := [.lit (.bool true)], args := [d] }
  | _ => none }
def fnModeNamesRow : OpenClaim := { program := "ytaniafohcaiedaadoor", sum := "290db7ed38ea1475e5f152ba7a529e62df77a180549fbe10c93a4cf21918e9f9", func := "pub-kaeriten/laws.FnModeNames", spec := "fnModeNames", named := ["internal/strconv.uint64pow10", "math/bits.deBruijn32tab", "math/bits.deBruijn64tab"], apart := false, laid := [("math/bits.deBruijn32tab", laid_math_bits_deBruijn32tab), ("math/bits.deBruijn64tab", laid_math_bits_deBruijn64tab), ("internal/strconv.uint64pow10", laid_internal_strconv_uint64pow10)] }
def FnModeNamesSaid : Prop := fnModeNamesRow.holds Tryd.pinned (OpenSpec.ofChange fnModeNamesSpec)

/-- ITS FALSE NEIGHBOUR: 'it returns false'. Refute it at one input. -/
def fnModeNamesWrong : ChangeSpec := { name := "fnModeNames", fn := fun _ => fun
  | [d] => { results := [.lit (.bool false)], args := [d] }
  | _ => none }
def FnModeNamesWrongFalsely : Prop := fnModeNamesRow.holds Tryd.pinned (OpenSpec.ofChange fnModeNamesWrong)

/-- 'laws.FnSentencesCut': WHATEVER THE INPUT: true; the input reads as it did. -/
def fnSentencesCutSpec : ChangeSpec := { name := "fnSentencesCut", fn := fun _ => fun
  | [d1, d2] => { results := [.lit (.bool true)], args := [d1, d2] }
  | _ => none }
def fnSentencesCutRow : OpenClaim := { program := "ytaniafohcaiedaadoor", sum := "290db7ed38ea1475e5f152ba7a529e62df77a180549fbe10c93a4cf21918e9f9", func := "pub-kaeriten/laws.FnSentencesCut", spec := "fnSentencesCut", named := ["unicode/utf8.first", "unicode/utf8.acceptRanges", "unicode.White_Space"], apart := false, laid := [("unicode/utf8.acceptRanges", laid_unicode_utf8_acceptRanges), ("unicode.White_Space", laid_unicode_White_Space), ("unicode/utf8.first", laid_unicode_utf8_first)] }
def FnSentencesCutSaid : Prop := fnSentencesCutRow.holds Tryd.pinned (OpenSpec.ofChange fnSentencesCutSpec)

/-- ITS FALSE NEIGHBOUR: 'it returns false'. Refute it at one input. -/
def fnSentencesCutWrong : ChangeSpec := { name := "fnSentencesCut", fn := fun _ => fun
  | [d1, d2] => { results := [.lit (.bool false)], args := [d1, d2] }
  | _ => none }
def FnSentencesCutWrongFalsely : Prop := fnSentencesCutRow.holds Tryd.pinned (OpenSpec.ofChange fnSentencesCutWrong)

/-- 'laws.FnSentencesTwo': WHATEVER THE INPUT: true; the input reads as it did. -/
def fnSentencesTwoSpec : ChangeSpec := { name := "fnSentencesTwo", fn := fun _ => fun
  | [d1, d2, d3] => { results := [.lit (.bool true)], args := [d1, d2, d3] }
  | _ => none }
def fnSentencesTwoRow : OpenClaim := { program := "ytaniafohcaiedaadoor", sum := "290db7ed38ea1475e5f152ba7a529e62df77a180549fbe10c93a4cf21918e9f9", func := "pub-kaeriten/laws.FnSentencesTwo", spec := "fnSentencesTwo", named := ["unicode/utf8.first", "unicode/utf8.acceptRanges", "unicode.White_Space"], apart := false, laid := [("unicode/utf8.acceptRanges", laid_unicode_utf8_acceptRanges), ("unicode.White_Space", laid_unicode_White_Space), ("unicode/utf8.first", laid_unicode_utf8_first)] }
def FnSentencesTwoSaid : Prop := fnSentencesTwoRow.holds Tryd.pinned (OpenSpec.ofChange fnSentencesTwoSpec)

/-- ITS FALSE NEIGHBOUR: 'it returns false'. Refute it at one input. -/
def fnSentencesTwoWrong : ChangeSpec := { name := "fnSentencesTwo", fn := fun _ => fun
  | [d1, d2, d3] => { results := [.lit (.bool false)], args := [d1, d2, d3] }
  | _ => none }
def FnSentencesTwoWrongFalsely : Prop := fnSentencesTwoRow.holds Tryd.pinned (OpenSpec.ofChange fnSentencesTwoWrong)

/-- 'laws.FnScanEmpty': WHATEVER THE INPUT: true; the input reads as it did. -/
def fnScanEmptySpec : ChangeSpec := { name := "fnScanEmpty", fn := fun _ => fun
  | [d1, d2] => { results := [.lit (.bool true)], args := [d1, d2] }
  | _ => none }
def fnScanEmptyRow : OpenClaim := { program := "ytaniafohcaiedaadoor", sum := "290db7ed38ea1475e5f152ba7a529e62df77a180549fbe10c93a4cf21918e9f9", func := "pub-kaeriten/laws.FnScanEmpty", spec := "fnScanEmpty", named := ["unicode/utf8.first", "unicode/utf8.acceptRanges", "unicode.White_Space"], apart := false, laid := [("unicode/utf8.acceptRanges", laid_unicode_utf8_acceptRanges), ("unicode.White_Space", laid_unicode_White_Space), ("unicode/utf8.first", laid_unicode_utf8_first)] }
def FnScanEmptySaid : Prop := fnScanEmptyRow.holds Tryd.pinned (OpenSpec.ofChange fnScanEmptySpec)

/-- ITS FALSE NEIGHBOUR: 'it returns false'. Refute it at one input. -/
def fnScanEmptyWrong : ChangeSpec := { name := "fnScanEmpty", fn := fun _ => fun
  | [d1, d2] => { results := [.lit (.bool false)], args := [d1, d2] }
  | _ => none }
def FnScanEmptyWrongFalsely : Prop := fnScanEmptyRow.holds Tryd.pinned (OpenSpec.ofChange fnScanEmptyWrong)

/-- 'laws.FnScanPieces': WHATEVER THE INPUT: true; the input reads as it did. -/
def fnScanPiecesSpec : ChangeSpec := { name := "fnScanPieces", fn := fun _ => fun
  | [d1, d2, d3] => { results := [.lit (.bool true)], args := [d1, d2, d3] }
  | _ => none }
def fnScanPiecesRow : OpenClaim := { program := "ytaniafohcaiedaadoor", sum := "290db7ed38ea1475e5f152ba7a529e62df77a180549fbe10c93a4cf21918e9f9", func := "pub-kaeriten/laws.FnScanPieces", spec := "fnScanPieces", named := ["unicode/utf8.first", "unicode/utf8.acceptRanges", "unicode.White_Space"], apart := false, laid := [("unicode/utf8.acceptRanges", laid_unicode_utf8_acceptRanges), ("unicode.White_Space", laid_unicode_White_Space), ("unicode/utf8.first", laid_unicode_utf8_first)] }
def FnScanPiecesSaid : Prop := fnScanPiecesRow.holds Tryd.pinned (OpenSpec.ofChange fnScanPiecesSpec)

/-- ITS FALSE NEIGHBOUR: 'it returns false'. Refute it at one input. -/
def fnScanPiecesWrong : ChangeSpec := { name := "fnScanPieces", fn := fun _ => fun
  | [d1, d2, d3] => { results := [.lit (.bool false)], args := [d1, d2, d3] }
  | _ => none }
def FnScanPiecesWrongFalsely : Prop := fnScanPiecesRow.holds Tryd.pinned (OpenSpec.ofChange fnScanPiecesWrong)

/-- 'laws.FnMetaBack': WHATEVER THE INPUT: true; the input reads as it did. -/
def fnMetaBackSpec : ChangeSpec := { name := "fnMetaBack", fn := fun _ => fun
  | [d1, d2] => { results := [.lit (.bool true)], args := [d1, d2] }
  | _ => none }
def fnMetaBackRow : OpenClaim := { program := "ytaniafohcaiedaadoor", sum := "290db7ed38ea1475e5f152ba7a529e62df77a180549fbe10c93a4cf21918e9f9", func := "pub-kaeriten/laws.FnMetaBack", spec := "fnMetaBack", unfollowed := true, recurses := true, named := ["io.ErrShortBuffer", "io.EOF", "io.ErrUnexpectedEOF"], apart := false, laid := [("io.ErrShortBuffer", laid_io_ErrShortBuffer), ("io.EOF", laid_io_EOF), ("io.ErrUnexpectedEOF", laid_io_ErrUnexpectedEOF)] }
def FnMetaBackSaid : Prop := fnMetaBackRow.holds Tryd.pinned (OpenSpec.ofChange fnMetaBackSpec)

/-- ITS FALSE NEIGHBOUR: 'it returns false'. Refute it at one input. -/
def fnMetaBackWrong : ChangeSpec := { name := "fnMetaBack", fn := fun _ => fun
  | [d1, d2] => { results := [.lit (.bool false)], args := [d1, d2] }
  | _ => none }
def FnMetaBackWrongFalsely : Prop := fnMetaBackRow.holds Tryd.pinned (OpenSpec.ofChange fnMetaBackWrong)

/- THE SECOND FORM. 'bulk': how many values and letters a reading holds, each counted each time it is reached (what is shared counts as often as it is met; a slice's spare places count too). A statement '..UptoSaid' is the law's where the arguments, and the package variables that the reading takes, are together of bulk at most 1048576: NARROWER than '..Said'. Prove '..Said' where nothing that the law and all that it calls make is longer than what came in: it says more and counts as full. Else prove '..UptoSaid'. A law counts once. -/
mutual
def uptoBulk {H : Type} : DataW H → Nat
  | .lit (.string bytes) => bytes.length + 1
  | .lit _ => 1
  | .nil => 1
  | .ptr d => uptoBulk d + 1
  | .slice elems spare => uptoBulkAll elems + uptoBulkAll spare + 1
  | .agg parts => uptoBulkAll parts + 1
  | .iface _ d => uptoBulk d + 1
  | .map entries => uptoBulkEntries entries + 1
  | .held _ => 1
def uptoBulkAll {H : Type} : List (DataW H) → Nat
  | [] => 0
  | d :: r => uptoBulk d + uptoBulkAll r
def uptoBulkEntries {H : Type} : List (Lit × DataW H) → Nat
  | [] => 0
  | x :: r => uptoBulkEntry x + uptoBulkEntries r
def uptoBulkEntry {H : Type} : Lit × DataW H → Nat
  | (.string bytes, d) => bytes.length + uptoBulk d + 1
  | (_, d) => uptoBulk d + 1
 end
def uptoSmall : (H : Type) → List (DataW H) → Bool := fun _ ds => decide (uptoBulkAll ds ≤ 1048576)
def OpenSpec.upto (s : _root_.Go.ChangeSpec) : _root_.Go.OpenSpec := { _root_.Go.OpenSpec.ofChange s with cond := some uptoSmall }

/-- 'laws.FnConnectionAt', WHERE WHAT IT READS IS OF BULK AT MOST 1048576: true; the input reads as it did. -/
def fnConnectionAtUptoRow : OpenClaim := { program := "ytaniafohcaiedaadoor", sum := "290db7ed38ea1475e5f152ba7a529e62df77a180549fbe10c93a4cf21918e9f9", func := "pub-kaeriten/laws.FnConnectionAt", spec := "fnConnectionAt", unfollowed := true, recurses := true, named := ["io.ErrShortBuffer", "io.EOF", "io.ErrUnexpectedEOF"], apart := false, laid := [("io.ErrShortBuffer", laid_io_ErrShortBuffer), ("io.EOF", laid_io_EOF), ("io.ErrUnexpectedEOF", laid_io_ErrUnexpectedEOF)], narrowed := true }
def FnConnectionAtUptoSaid : Prop := fnConnectionAtUptoRow.holds Tryd.pinned (OpenSpec.upto fnConnectionAtSpec)

/-- 'laws.FnExactMorphBytes', WHERE WHAT IT READS IS OF BULK AT MOST 1048576: true; the input reads as it did. -/
def fnExactMorphBytesUptoRow : OpenClaim := { program := "ytaniafohcaiedaadoor", sum := "290db7ed38ea1475e5f152ba7a529e62df77a180549fbe10c93a4cf21918e9f9", func := "pub-kaeriten/laws.FnExactMorphBytes", spec := "fnExactMorphBytes", unfollowed := true, recurses := true, named := ["io.ErrShortBuffer", "io.EOF", "io.ErrUnexpectedEOF"], apart := false, laid := [("io.ErrShortBuffer", laid_io_ErrShortBuffer), ("io.EOF", laid_io_EOF), ("io.ErrUnexpectedEOF", laid_io_ErrUnexpectedEOF)], narrowed := true }
def FnExactMorphBytesUptoSaid : Prop := fnExactMorphBytesUptoRow.holds Tryd.pinned (OpenSpec.upto fnExactMorphBytesSpec)

/-- 'laws.FnMorphBack', WHERE WHAT IT READS IS OF BULK AT MOST 1048576: true; the input reads as it did. -/
def fnMorphBackUptoRow : OpenClaim := { program := "ytaniafohcaiedaadoor", sum := "290db7ed38ea1475e5f152ba7a529e62df77a180549fbe10c93a4cf21918e9f9", func := "pub-kaeriten/laws.FnMorphBack", spec := "fnMorphBack", unfollowed := true, recurses := true, named := ["io.ErrShortBuffer", "io.EOF", "io.ErrUnexpectedEOF"], apart := false, laid := [("io.ErrShortBuffer", laid_io_ErrShortBuffer), ("io.EOF", laid_io_EOF), ("io.ErrUnexpectedEOF", laid_io_ErrUnexpectedEOF)], narrowed := true }
def FnMorphBackUptoSaid : Prop := fnMorphBackUptoRow.holds Tryd.pinned (OpenSpec.upto fnMorphBackSpec)

/-- 'laws.FnModeNames', WHERE WHAT IT READS IS OF BULK AT MOST 1048576: true; the input reads as it did. -/
def fnModeNamesUptoRow : OpenClaim := { program := "ytaniafohcaiedaadoor", sum := "290db7ed38ea1475e5f152ba7a529e62df77a180549fbe10c93a4cf21918e9f9", func := "pub-kaeriten/laws.FnModeNames", spec := "fnModeNames", named := ["internal/strconv.uint64pow10", "math/bits.deBruijn32tab", "math/bits.deBruijn64tab"], apart := false, laid := [("math/bits.deBruijn32tab", laid_math_bits_deBruijn32tab), ("math/bits.deBruijn64tab", laid_math_bits_deBruijn64tab), ("internal/strconv.uint64pow10", laid_internal_strconv_uint64pow10)], narrowed := true }
def FnModeNamesUptoSaid : Prop := fnModeNamesUptoRow.holds Tryd.pinned (OpenSpec.upto fnModeNamesSpec)

/-- 'laws.FnSentencesCut', WHERE WHAT IT READS IS OF BULK AT MOST 1048576: true; the input reads as it did. -/
def fnSentencesCutUptoRow : OpenClaim := { program := "ytaniafohcaiedaadoor", sum := "290db7ed38ea1475e5f152ba7a529e62df77a180549fbe10c93a4cf21918e9f9", func := "pub-kaeriten/laws.FnSentencesCut", spec := "fnSentencesCut", named := ["unicode/utf8.first", "unicode/utf8.acceptRanges", "unicode.White_Space"], apart := false, laid := [("unicode/utf8.acceptRanges", laid_unicode_utf8_acceptRanges), ("unicode.White_Space", laid_unicode_White_Space), ("unicode/utf8.first", laid_unicode_utf8_first)], narrowed := true }
def FnSentencesCutUptoSaid : Prop := fnSentencesCutUptoRow.holds Tryd.pinned (OpenSpec.upto fnSentencesCutSpec)

/-- 'laws.FnSentencesTwo', WHERE WHAT IT READS IS OF BULK AT MOST 1048576: true; the input reads as it did. -/
def fnSentencesTwoUptoRow : OpenClaim := { program := "ytaniafohcaiedaadoor", sum := "290db7ed38ea1475e5f152ba7a529e62df77a180549fbe10c93a4cf21918e9f9", func := "pub-kaeriten/laws.FnSentencesTwo", spec := "fnSentencesTwo", named := ["unicode/utf8.first", "unicode/utf8.acceptRanges", "unicode.White_Space"], apart := false, laid := [("unicode/utf8.acceptRanges", laid_unicode_utf8_acceptRanges), ("unicode.White_Space", laid_unicode_White_Space), ("unicode/utf8.first", laid_unicode_utf8_first)], narrowed := true }
def FnSentencesTwoUptoSaid : Prop := fnSentencesTwoUptoRow.holds Tryd.pinned (OpenSpec.upto fnSentencesTwoSpec)

/-- 'laws.FnScanEmpty', WHERE WHAT IT READS IS OF BULK AT MOST 1048576: true; the input reads as it did. -/
def fnScanEmptyUptoRow : OpenClaim := { program := "ytaniafohcaiedaadoor", sum := "290db7ed38ea1475e5f152ba7a529e62df77a180549fbe10c93a4cf21918e9f9", func := "pub-kaeriten/laws.FnScanEmpty", spec := "fnScanEmpty", named := ["unicode/utf8.first", "unicode/utf8.acceptRanges", "unicode.White_Space"], apart := false, laid := [("unicode/utf8.acceptRanges", laid_unicode_utf8_acceptRanges), ("unicode.White_Space", laid_unicode_White_Space), ("unicode/utf8.first", laid_unicode_utf8_first)], narrowed := true }
def FnScanEmptyUptoSaid : Prop := fnScanEmptyUptoRow.holds Tryd.pinned (OpenSpec.upto fnScanEmptySpec)

/-- 'laws.FnScanPieces', WHERE WHAT IT READS IS OF BULK AT MOST 1048576: true; the input reads as it did. -/
def fnScanPiecesUptoRow : OpenClaim := { program := "ytaniafohcaiedaadoor", sum := "290db7ed38ea1475e5f152ba7a529e62df77a180549fbe10c93a4cf21918e9f9", func := "pub-kaeriten/laws.FnScanPieces", spec := "fnScanPieces", named := ["unicode/utf8.first", "unicode/utf8.acceptRanges", "unicode.White_Space"], apart := false, laid := [("unicode/utf8.acceptRanges", laid_unicode_utf8_acceptRanges), ("unicode.White_Space", laid_unicode_White_Space), ("unicode/utf8.first", laid_unicode_utf8_first)], narrowed := true }
def FnScanPiecesUptoSaid : Prop := fnScanPiecesUptoRow.holds Tryd.pinned (OpenSpec.upto fnScanPiecesSpec)

/-- 'laws.FnMetaBack', WHERE WHAT IT READS IS OF BULK AT MOST 1048576: true; the input reads as it did. -/
def fnMetaBackUptoRow : OpenClaim := { program := "ytaniafohcaiedaadoor", sum := "290db7ed38ea1475e5f152ba7a529e62df77a180549fbe10c93a4cf21918e9f9", func := "pub-kaeriten/laws.FnMetaBack", spec := "fnMetaBack", unfollowed := true, recurses := true, named := ["io.ErrShortBuffer", "io.EOF", "io.ErrUnexpectedEOF"], apart := false, laid := [("io.ErrShortBuffer", laid_io_ErrShortBuffer), ("io.EOF", laid_io_EOF), ("io.ErrUnexpectedEOF", laid_io_ErrUnexpectedEOF)], narrowed := true }
def FnMetaBackUptoSaid : Prop := fnMetaBackUptoRow.holds Tryd.pinned (OpenSpec.upto fnMetaBackSpec)

end Rows
end Go.Proofs.YtaniafohcaiedaaDoor
