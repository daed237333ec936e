/-
  DERIVED: THE SHELF's CONTRACTS AT THIS DUMP, IN PLAIN WORDS (tools/lay-plain.mjs out of 'TrydShelf.lean', which tools/lay-shelf.mjs wrote): THE SAME DECLARATIONS UNDER THE SAME NAMES: 'import', 'namespace', 'open', 'def', 'theorem' AND NOTHING ELSE: no command of the shelf's: FOR A HAND-IN. Each laying: the table of numbers ('.._ren') and one theorem, a field a fact of the dump's own or the kernel's comparison; each contract: ONE APPLICATION.
-/
import Derived.Shelf.Strings.TrimSpace
import Derived.Shelf.Small.Utf8
import Derived.Shelf.Small.Bits
import Derived.Shelf.Small.Strs
import Derived.Shelf.Strconv.Atoi
import Derived.Shelf.Strconv.Itoa0
import Derived.Shelf.Strconv.Itoa1
import Derived.Shelf.LaysM
import Derived.Shelf.Strconv.Itoa2
import Derived.Shelf.Strconv.Itoa3
import Derived.Shelf.Strconv.AtoiErrFast
import Derived.Shelf.Strconv.ParseIntEmpty
import Derived.Shelf.Strconv.AtoiFail
import Derived.Shelf.Strconv.Clone
import Derived.Shelf.Strconv.SyntaxError
import Derived.Shelf.LaysC
import Derived.Shelf.Strconv.ToError
import Derived.Shelf.Strconv.Lower
import Derived.Shelf.Strconv.ParseUint10
import Derived.Shelf.Strconv.ParseUint10Empty
import Derived.Shelf.Strconv.ParseUint10Any
import Derived.Shelf.Strconv.ParseInt10
import Derived.Shelf.Strconv.AtoiLong
import Derived.Shelf.Strconv.AtoiInnerAll
import Derived.Shelf.Strconv.RangeError
import Derived.Shelf.Strconv.ToErrorRange
import Derived.Shelf.Strconv.AtoiAll
import Derived.Shelf.Strconv.ErrVarAll
import Derived.Shelf.Strconv.ParseUintEmpty
import Derived.Shelf.Strconv.ParseUint10b64
import Derived.Shelf.Strconv.ParseUint10b32
import Derived.Shelf.Strconv.ParseUint10b16
import Derived.Shelf.Strconv.ParseUint10b8
import Derived.Shelf.Strconv.ParseUint10At
import Derived.Shelf.Strconv.ParseInt10At64
import Derived.Shelf.Strconv.ParseInt10At32
import Derived.Shelf.Strconv.ParseInt10At16
import Derived.Shelf.Strconv.ParseInt10At8
import Derived.Shelf.Strconv.ParseInt10All
import Derived.Shelf.Strconv.ParseIntPublic10
import Derived.Shelf.Sort.Plain
import Derived.Shelf.GgClosure.StringsIndexFunc
import Derived.Shelf.GgClosure.StringsTrimFunc
import Derived.Shelf.GgClosure.StringsRunes
import Derived.Shelf.Unicode.Latin
import Derived.Shelf.Unicode.Decode
import Derived.Shelf.Unicode.DecodeSlow
import Derived.Shelf.Unicode.DecodeAny
import Derived.Shelf.Unicode.Is16White
import Derived.Shelf.Unicode.IsSpaceAny
import Derived.Shelf.Unicode.DecodeLast
import Derived.Shelf.Strings.TrimSpaceAny
import Derived.Shelf.Unicode.Is16WhiteD
import Derived.Shelf.Unicode.IsSpaceAnyD
import Derived.Shelf.Unicode.Is16Any
import Derived.Shelf.Unicode.Is32Any
import Derived.Shelf.Unicode.ExclAny
import Derived.Shelf.Strings.FuncGrows
import Derived.Ground.Names2Prog
import Derived.Shelf.Slices.Clone
import Derived.Shelf.Slices.In.SortNone
import Derived.Ground.SlgnProg
import Derived.Shelf.SlicesE.Clone
import Derived.Test.YteoljiclmhmbnaaDoorProg
namespace Go.Proofs
open Go.Shelf
def Tryd.lays163_ren : Go.Shelf.Ren := ⟨fun | 163 => 64 | 237 => 79 | 199 => 80 | 238 => 81 | 272 => 104 | 261 => 105 | 273 => 106 | 197 => 107 | 315 => 128 | 311 => 129 | 312 => 130 | 271 => 131 | 260 => 132 | 120 => 156 | n => n, fun | 9 => 9 | 37 => 103 | 3 => 3 | 0 => 0 | 5 => 5 | 4 => 4 | 40 => 181 | 119 => 182 | 21 => 21 | 51 => 208 | 141 => 210 | 105 => 212 | 196 => 234 | 193 => 231 | 198 => 237 | 49 => 235 | 194 => 232 | 201 => 240 | 226 => 263 | 46 => 230 | 227 => 264 | 139 => 267 | 138 => 266 | n => n, fun | 0 => 0 | 6 => 2 | 3 => 3 | 4 => 4 | n => n⟩
theorem Tryd.lays163 : Go.Proofs.Lays.n163 Tryd.prog Tryd.lays163_ren := {
  mixed := by kernel_rfl
  f120 := Tryd.func156.trans (congrArg some (by kernel_rfl))
  f163 := Tryd.func64.trans (congrArg some (by kernel_rfl))
  f197 := Tryd.func107.trans (congrArg some (by kernel_rfl))
  f199 := Tryd.func80.trans (congrArg some (by kernel_rfl))
  f237 := Tryd.func79.trans (congrArg some (by kernel_rfl))
  f238 := Tryd.func81.trans (congrArg some (by kernel_rfl))
  f260 := Tryd.func132.trans (congrArg some (by kernel_rfl))
  f261 := Tryd.func105.trans (congrArg some (by kernel_rfl))
  f271 := Tryd.func131.trans (congrArg some (by kernel_rfl))
  f272 := Tryd.func104.trans (congrArg some (by kernel_rfl))
  f273 := Tryd.func106.trans (congrArg some (by kernel_rfl))
  f311 := Tryd.func129.trans (congrArg some (by kernel_rfl))
  f312 := Tryd.func130.trans (congrArg some (by kernel_rfl))
  f315 := Tryd.func128.trans (congrArg some (by kernel_rfl))
  t0 := Tryd.underlying0
  a0 := Tryd.isAgg0
  z0 := Tryd.sizeOf0
  v0 := Tryd.zeroValue0
  t3 := Tryd.underlying3
  a3 := Tryd.isAgg3
  z3 := Tryd.sizeOf3
  v3 := Tryd.zeroValue3
  t4 := Tryd.underlying4
  a4 := Tryd.isAgg4
  z4 := Tryd.sizeOf4
  v4 := Tryd.zeroValue4
  t5 := Tryd.underlying5
  a5 := Tryd.isAgg5
  z5 := Tryd.sizeOf5
  v5 := Tryd.zeroValue5
  t9 := Tryd.underlying9
  a9 := Tryd.isAgg9
  z9 := Tryd.sizeOf9
  v9 := Tryd.zeroValue9
  t21 := Tryd.underlying21
  a21 := Tryd.isAgg21
  z21 := Tryd.sizeOf21
  v21 := Tryd.zeroValue21
  t37 := Tryd.underlying103
  a37 := Tryd.isAgg103
  z37 := Tryd.sizeOf103
  v37 := Tryd.zeroValue103
  t40 := Tryd.underlying181
  a40 := Tryd.isAgg181
  z40 := Tryd.sizeOf181
  v40 := Tryd.zeroValue181
  t46 := Tryd.underlying230
  a46 := Tryd.isAgg230
  z46 := Tryd.sizeOf230
  v46 := Tryd.zeroValue230
  t49 := Tryd.underlying235
  a49 := Tryd.isAgg235
  z49 := Tryd.sizeOf235
  v49 := Tryd.zeroValue235
  t51 := Tryd.underlying208
  a51 := Tryd.isAgg208
  z51 := Tryd.sizeOf208
  v51 := Tryd.zeroValue208
  t105 := Tryd.underlying212
  a105 := Tryd.isAgg212
  z105 := Tryd.sizeOf212
  v105 := Tryd.zeroValue212
  t119 := Tryd.underlying182
  a119 := Tryd.isAgg182
  z119 := Tryd.sizeOf182
  t138 := Tryd.underlying266
  a138 := Tryd.isAgg266
  z138 := Tryd.sizeOf266
  v138 := Tryd.zeroValue266
  t139 := Tryd.underlying267
  a139 := Tryd.isAgg267
  z139 := Tryd.sizeOf267
  v139 := Tryd.zeroValue267
  t141 := Tryd.underlying210
  a141 := Tryd.isAgg210
  z141 := Tryd.sizeOf210
  v141 := Tryd.zeroValue210
  t193 := Tryd.underlying231
  a193 := Tryd.isAgg231
  z193 := Tryd.sizeOf231
  v193 := Tryd.zeroValue231
  t194 := Tryd.underlying232
  a194 := Tryd.isAgg232
  z194 := Tryd.sizeOf232
  v194 := Tryd.zeroValue232
  t196 := Tryd.underlying234
  a196 := Tryd.isAgg234
  z196 := Tryd.sizeOf234
  v196 := Tryd.zeroValue234
  t198 := Tryd.underlying237
  a198 := Tryd.isAgg237
  z198 := Tryd.sizeOf237
  v198 := Tryd.zeroValue237
  t201 := Tryd.underlying240
  a201 := Tryd.isAgg240
  z201 := Tryd.sizeOf240
  v201 := Tryd.zeroValue240
  t226 := Tryd.underlying263
  a226 := Tryd.isAgg263
  z226 := Tryd.sizeOf263
  v226 := Tryd.zeroValue263
  t227 := Tryd.underlying264
  a227 := Tryd.isAgg264
  z227 := Tryd.sizeOf264
  v227 := Tryd.zeroValue264
  g0 := by kernel_rfl
  g3 := by kernel_rfl
  g4 := by kernel_rfl
  g6 := by kernel_rfl }
theorem Tryd.Space_Extra_163 : Space.Extra Tryd.prog Tryd.lays163_ren := {
  gNamed := by kernel_rfl }
open Go.RowKit in
theorem Tryd.strings_TrimSpace (s : ByteArray) (w : World) (hs : s.size ≤ 9223372036854775807) (hascii : ∀ (j : Nat) b, s.data.toList[j]? = some b → b.toNat < 128) (htab : Lib.TabIs Tryd.prog w "strings.asciiSpace" .u8 Lib.asciiSpaceTab) :
    Calls Tryd.prog 64 #[.string s] w fun e w' => e = .returned (.string ⟨(Lib.trimSpace s.data.toList).toArray⟩) ∧ w' = Lib.bytesWorld w 5 s := Any.strings_TrimSpace Tryd.lays163 Tryd.Space_Extra_163 s w hs hascii htab
def Tryd.lays106_ren : Go.Shelf.Ren := ⟨fun | 106 => 63 | 213 => 78 | 265 => 103 | n => n, fun | 9 => 9 | 3 => 3 | n => n, fun | n => n⟩
theorem Tryd.lays106 : Go.Proofs.Lays.n106 Tryd.prog Tryd.lays106_ren := {
  mixed := by kernel_rfl
  f106 := Tryd.func63.trans (congrArg some (by kernel_rfl))
  f213 := Tryd.func78.trans (congrArg some (by kernel_rfl))
  f265 := Tryd.func103.trans (congrArg some (by kernel_rfl))
  t3 := Tryd.underlying3
  a3 := Tryd.isAgg3
  z3 := Tryd.sizeOf3
  v3 := Tryd.zeroValue3
  t9 := Tryd.underlying9
  a9 := Tryd.isAgg9
  z9 := Tryd.sizeOf9
  v9 := Tryd.zeroValue9 }
open Go.RowKit in
/-- strings.Compare: "Compare returns an integer comparing two strings lexicographically. The result will be 0 if a == b, -1 if a < b, and +1 if a > b.": IT RETURNS 'Lib.compareBytes a b'; the world is as it was. (LAID: no walk: one application.) -/
theorem Tryd.strings_Compare (a b : ByteArray) (w : World) :
    Calls Tryd.prog 63 #[.string a, .string b] w fun e w' => e = .returned (.int .i64 (Lib.compareBytes a.data.toList b.data.toList)) ∧ w' = w := Any.strings_Compare Tryd.lays106 a b w
end Go.Proofs
