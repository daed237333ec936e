/-
  DERIVED: THE SHELF's CONTRACTS AT THIS DUMP, IN PLAIN WORDS (tools/lay-plain.mjs out of 'TrydShelf.lean', which tools/lay-shelf.mjs wrote): THE SAME DECLARATIONS UNDER THE SAME NAMES: 'import', 'namespace', 'open', 'def', 'theorem' AND NOTHING ELSE: no command of the shelf's: FOR A HAND-IN. Each laying: the table of numbers ('.._ren') and one theorem, a field a fact of the dump's own or the kernel's comparison; each contract: ONE APPLICATION.
-/
import Derived.Shelf.Strings.TrimSpace
import Derived.Shelf.Small.Utf8
import Derived.Shelf.Small.Bits
import Derived.Shelf.Small.Strs
import Derived.Shelf.Strconv.Atoi
import Derived.Shelf.Strconv.Itoa0
import Derived.Shelf.Strconv.Itoa1
import Derived.Shelf.LaysM
import Derived.Shelf.Strconv.AtoiErrFast
import Derived.Shelf.Strconv.ParseIntEmpty
import Derived.Shelf.Strconv.AtoiFail
import Derived.Shelf.Strconv.Clone
import Derived.Shelf.Strconv.SyntaxError
import Derived.Shelf.LaysC
import Derived.Shelf.Strconv.ToError
import Derived.Shelf.Strconv.Lower
import Derived.Shelf.Strconv.ParseUint10
import Derived.Shelf.Strconv.ParseUint10Empty
import Derived.Shelf.Strconv.ParseUint10Any
import Derived.Shelf.Strconv.ParseInt10
import Derived.Shelf.Strconv.AtoiLong
import Derived.Shelf.Strconv.AtoiInnerAll
import Derived.Shelf.Strconv.RangeError
import Derived.Shelf.Strconv.ToErrorRange
import Derived.Shelf.Strconv.AtoiAll
import Derived.Shelf.Strconv.ErrVarAll
import Derived.Shelf.Strconv.ParseUintEmpty
import Derived.Shelf.Strconv.ParseUint10b64
import Derived.Shelf.Strconv.ParseUint10b32
import Derived.Shelf.Strconv.ParseUint10b16
import Derived.Shelf.Strconv.ParseUint10b8
import Derived.Shelf.Strconv.ParseUint10At
import Derived.Shelf.Strconv.ParseInt10At64
import Derived.Shelf.Strconv.ParseInt10At32
import Derived.Shelf.Strconv.ParseInt10At16
import Derived.Shelf.Strconv.ParseInt10At8
import Derived.Shelf.Strconv.ParseInt10All
import Derived.Shelf.Strconv.ParseIntPublic10
import Derived.Shelf.Sort.Plain
import Derived.Shelf.GgClosure.StringsIndexFunc
import Derived.Shelf.GgClosure.StringsTrimFunc
import Derived.Shelf.GgClosure.StringsRunes
import Derived.Shelf.Unicode.Latin
import Derived.Shelf.Unicode.Decode
import Derived.Shelf.Unicode.DecodeSlow
import Derived.Shelf.Unicode.DecodeAny
import Derived.Shelf.Unicode.Is16White
import Derived.Shelf.Unicode.IsSpaceAny
import Derived.Shelf.Unicode.DecodeLast
import Derived.Shelf.Strings.TrimSpaceAny
import Derived.Shelf.Unicode.Is16WhiteD
import Derived.Shelf.Unicode.IsSpaceAnyD
import Derived.Shelf.Unicode.Is16Any
import Derived.Shelf.Unicode.Is32Any
import Derived.Shelf.Unicode.ExclAny
import Derived.Shelf.Strings.FuncGrows
import Derived.Ground.Names2Prog
import Derived.Shelf.Slices.Clone
import Derived.Shelf.Slices.In.SortNone
import Derived.Ground.SlgnProg
import Derived.Shelf.SlicesE.Clone
import Derived.Test.YteoljiclmhmbnaaDoorProg
namespace Go.Proofs
open Go.Shelf
def Tryd.lays163_ren : Go.Shelf.Ren := ⟨fun | 163 => 64 | 237 => 79 | 199 => 80 | 238 => 81 | 272 => 104 | 261 => 105 | 273 => 106 | 197 => 107 | 315 => 128 | 311 => 129 | 312 => 130 | 271 => 131 | 260 => 132 | 120 => 156 | n => n, fun | 9 => 9 | 37 => 103 | 3 => 3 | 0 => 0 | 5 => 5 | 4 => 4 | 40 => 181 | 119 => 182 | 21 => 21 | 51 => 208 | 141 => 210 | 105 => 212 | 196 => 234 | 193 => 231 | 198 => 237 | 49 => 235 | 194 => 232 | 201 => 240 | 226 => 263 | 46 => 230 | 227 => 264 | 139 => 267 | 138 => 266 | n => n, fun | 0 => 0 | 6 => 2 | 3 => 3 | 4 => 4 | n => n⟩
theorem Tryd.lays163 : Go.Proofs.Lays.n163 Tryd.prog Tryd.lays163_ren := {
  mixed := by kernel_rfl
  f120 := Tryd.func156.trans (congrArg some (by kernel_rfl))
  f163 := Tryd.func64.trans (congrArg some (by kernel_rfl))
  f197 := Tryd.func107.trans (congrArg some (by kernel_rfl))
  f199 := Tryd.func80.trans (congrArg some (by kernel_rfl))
  f237 := Tryd.func79.trans (congrArg some (by kernel_rfl))
  f238 := Tryd.func81.trans (congrArg some (by kernel_rfl))
  f260 := Tryd.func132.trans (congrArg some (by kernel_rfl))
  f261 := Tryd.func105.trans (congrArg some (by kernel_rfl))
  f271 := Tryd.func131.trans (congrArg some (by kernel_rfl))
  f272 := Tryd.func104.trans (congrArg some (by kernel_rfl))
  f273 := Tryd.func106.trans (congrArg some (by kernel_rfl))
  f311 := Tryd.func129.trans (congrArg some (by kernel_rfl))
  f312 := Tryd.func130.trans (congrArg some (by kernel_rfl))
  f315 := Tryd.func128.trans (congrArg some (by kernel_rfl))
  t0 := Tryd.underlying0
  a0 := Tryd.isAgg0
  z0 := Tryd.sizeOf0
  v0 := Tryd.zeroValue0
  t3 := Tryd.underlying3
  a3 := Tryd.isAgg3
  z3 := Tryd.sizeOf3
  v3 := Tryd.zeroValue3
  t4 := Tryd.underlying4
  a4 := Tryd.isAgg4
  z4 := Tryd.sizeOf4
  v4 := Tryd.zeroValue4
  t5 := Tryd.underlying5
  a5 := Tryd.isAgg5
  z5 := Tryd.sizeOf5
  v5 := Tryd.zeroValue5
  t9 := Tryd.underlying9
  a9 := Tryd.isAgg9
  z9 := Tryd.sizeOf9
  v9 := Tryd.zeroValue9
  t21 := Tryd.underlying21
  a21 := Tryd.isAgg21
  z21 := Tryd.sizeOf21
  v21 := Tryd.zeroValue21
  t37 := Tryd.underlying103
  a37 := Tryd.isAgg103
  z37 := Tryd.sizeOf103
  v37 := Tryd.zeroValue103
  t40 := Tryd.underlying181
  a40 := Tryd.isAgg181
  z40 := Tryd.sizeOf181
  v40 := Tryd.zeroValue181
  t46 := Tryd.underlying230
  a46 := Tryd.isAgg230
  z46 := Tryd.sizeOf230
  v46 := Tryd.zeroValue230
  t49 := Tryd.underlying235
  a49 := Tryd.isAgg235
  z49 := Tryd.sizeOf235
  v49 := Tryd.zeroValue235
  t51 := Tryd.underlying208
  a51 := Tryd.isAgg208
  z51 := Tryd.sizeOf208
  v51 := Tryd.zeroValue208
  t105 := Tryd.underlying212
  a105 := Tryd.isAgg212
  z105 := Tryd.sizeOf212
  v105 := Tryd.zeroValue212
  t119 := Tryd.underlying182
  a119 := Tryd.isAgg182
  z119 := Tryd.sizeOf182
  t138 := Tryd.underlying266
  a138 := Tryd.isAgg266
  z138 := Tryd.sizeOf266
  v138 := Tryd.zeroValue266
  t139 := Tryd.underlying267
  a139 := Tryd.isAgg267
  z139 := Tryd.sizeOf267
  v139 := Tryd.zeroValue267
  t141 := Tryd.underlying210
  a141 := Tryd.isAgg210
  z141 := Tryd.sizeOf210
  v141 := Tryd.zeroValue210
  t193 := Tryd.underlying231
  a193 := Tryd.isAgg231
  z193 := Tryd.sizeOf231
  v193 := Tryd.zeroValue231
  t194 := Tryd.underlying232
  a194 := Tryd.isAgg232
  z194 := Tryd.sizeOf232
  v194 := Tryd.zeroValue232
  t196 := Tryd.underlying234
  a196 := Tryd.isAgg234
  z196 := Tryd.sizeOf234
  v196 := Tryd.zeroValue234
  t198 := Tryd.underlying237
  a198 := Tryd.isAgg237
  z198 := Tryd.sizeOf237
  v198 := Tryd.zeroValue237
  t201 := Tryd.underlying240
  a201 := Tryd.isAgg240
  z201 := Tryd.sizeOf240
  v201 := Tryd.zeroValue240
  t226 := Tryd.underlying263
  a226 := Tryd.isAgg263
  z226 := Tryd.sizeOf263
  v226 := Tryd.zeroValue263
  t227 := Tryd.underlying264
  a227 := Tryd.isAgg264
  z227 := Tryd.sizeOf264
  v227 := Tryd.zeroValue264
  g0 := by kernel_rfl
  g3 := by kernel_rfl
  g4 := by kernel_rfl
  g6 := by kernel_rfl }
theorem Tryd.Space_Extra_163 : Space.Extra Tryd.prog Tryd.lays163_ren := {
  gNamed := by kernel_rfl }
open Go.RowKit in
theorem Tryd.strings_TrimSpace (s : ByteArray) (w : World) (hs : s.size ≤ 9223372036854775807) (hascii : ∀ (j : Nat) b, s.data.toList[j]? = some b → b.toNat < 128) (htab : Lib.TabIs Tryd.prog w "strings.asciiSpace" .u8 Lib.asciiSpaceTab) :
    Calls Tryd.prog 64 #[.string s] w fun e w' => e = .returned (.string ⟨(Lib.trimSpace s.data.toList).toArray⟩) ∧ w' = Lib.bytesWorld w 5 s := Any.strings_TrimSpace Tryd.lays163 Tryd.Space_Extra_163 s w hs hascii htab
def Tryd.lays106_ren : Go.Shelf.Ren := ⟨fun | 106 => 63 | 213 => 78 | 265 => 103 | n => n, fun | 9 => 9 | 3 => 3 | n => n, fun | n => n⟩
theorem Tryd.lays106 : Go.Proofs.Lays.n106 Tryd.prog Tryd.lays106_ren := {
  mixed := by kernel_rfl
  f106 := Tryd.func63.trans (congrArg some (by kernel_rfl))
  f213 := Tryd.func78.trans (congrArg some (by kernel_rfl))
  f265 := Tryd.func103.trans (congrArg some (by kernel_rfl))
  t3 := Tryd.underlying3
  a3 := Tryd.isAgg3
  z3 := Tryd.sizeOf3
  v3 := Tryd.zeroValue3
  t9 := Tryd.underlying9
  a9 := Tryd.isAgg9
  z9 := Tryd.sizeOf9
  v9 := Tryd.zeroValue9 }
open Go.RowKit in
/-- strings.Compare: "Compare returns an integer comparing two strings lexicographically. The result will be 0 if a == b, -1 if a < b, and +1 if a > b.": IT RETURNS 'Lib.compareBytes a b'; the world is as it was. (LAID: no walk: one application.) -/
theorem Tryd.strings_Compare (a b : ByteArray) (w : World) :
    Calls Tryd.prog 63 #[.string a, .string b] w fun e w' => e = .returned (.int .i64 (Lib.compareBytes a.data.toList b.data.toList)) ∧ w' = w := Any.strings_Compare Tryd.lays106 a b w
def Tryd.laysC172_ren : Go.Shelf.Ren := ⟨fun | 172 => 97 | 244 => 123 | 245 => 121 | 247 => 120 | 279 => 139 | 280 => 140 | 281 => 141 | 282 => 142 | 287 => 138 | 316 => 162 | 171 => 163 | 205 => 65 | 321 => 160 | 322 => 161 | 243 => 170 | 246 => 173 | 283 => 174 | 284 => 175 | 285 => 176 | 286 => 177 | 129 => 154 | 317 => 178 | 318 => 179 | 319 => 180 | 320 => 181 | 337 => 182 | 338 => 183 | n => n, fun | 9 => 9 | 3 => 3 | 75 => 81 | 76 => 203 | 4 => 4 | 5 => 5 | 167 => 245 | 37 => 103 | 0 => 0 | 85 => 196 | 2 => 2 | 168 => 249 | 53 => 246 | 175 => 247 | 46 => 230 | 210 => 270 | 127 => 277 | 145 => 185 | 143 => 183 | 21 => 21 | 171 => 282 | 173 => 284 | 212 => 288 | 51 => 208 | 20 => 20 | 213 => 289 | 232 => 291 | 233 => 292 | 80 => 293 | n => n, fun | 15 => 5 | 16 => 6 | 17 => 7 | 18 => 8 | 19 => 9 | n => n⟩
theorem Tryd.laysC172 : Go.Proofs.LaysC.n172 Tryd.prog Tryd.laysC172_ren := {
  mixed := by kernel_rfl
  f129 := Tryd.func154.trans (congrArg some (by kernel_rfl))
  f171 := Tryd.func163.trans (congrArg some (by kernel_rfl))
  f172 := Tryd.func97.trans (congrArg some (by kernel_rfl))
  f205 := Tryd.func65.trans (congrArg some (by kernel_rfl))
  f243 := Tryd.func170.trans (congrArg some (by kernel_rfl))
  f244 := Tryd.func123.trans (congrArg some (by kernel_rfl))
  f245 := Tryd.func121.trans (congrArg some (by kernel_rfl))
  f246 := Tryd.func173.trans (congrArg some (by kernel_rfl))
  f247 := Tryd.func120.trans (congrArg some (by kernel_rfl))
  f279 := Tryd.func139.trans (congrArg some (by kernel_rfl))
  f280 := Tryd.func140.trans (congrArg some (by kernel_rfl))
  f281 := Tryd.func141.trans (congrArg some (by kernel_rfl))
  f282 := Tryd.func142.trans (congrArg some (by kernel_rfl))
  f283 := Tryd.func174.trans (congrArg some (by kernel_rfl))
  f284 := Tryd.func175.trans (congrArg some (by kernel_rfl))
  f285 := Tryd.func176.trans (congrArg some (by kernel_rfl))
  f286 := Tryd.func177.trans (congrArg some (by kernel_rfl))
  f287 := Tryd.func138.trans (congrArg some (by kernel_rfl))
  f316 := Tryd.func162.trans (congrArg some (by kernel_rfl))
  f317 := Tryd.func178.trans (congrArg some (by kernel_rfl))
  f318 := Tryd.func179.trans (congrArg some (by kernel_rfl))
  f319 := Tryd.func180.trans (congrArg some (by kernel_rfl))
  f320 := Tryd.func181.trans (congrArg some (by kernel_rfl))
  f321 := Tryd.func160.trans (congrArg some (by kernel_rfl))
  f322 := Tryd.func161.trans (congrArg some (by kernel_rfl))
  f337 := Tryd.func182.trans (congrArg some (by kernel_rfl))
  f338 := Tryd.func183.trans (congrArg some (by kernel_rfl))
  t0 := Tryd.underlying0
  a0 := Tryd.isAgg0
  z0 := Tryd.sizeOf0
  v0 := Tryd.zeroValue0
  t2 := Tryd.underlying2
  a2 := Tryd.isAgg2
  z2 := Tryd.sizeOf2
  v2 := Tryd.zeroValue2
  t3 := Tryd.underlying3
  a3 := Tryd.isAgg3
  z3 := Tryd.sizeOf3
  v3 := Tryd.zeroValue3
  t4 := Tryd.underlying4
  a4 := Tryd.isAgg4
  z4 := Tryd.sizeOf4
  v4 := Tryd.zeroValue4
  t5 := Tryd.underlying5
  a5 := Tryd.isAgg5
  z5 := Tryd.sizeOf5
  v5 := Tryd.zeroValue5
  t9 := Tryd.underlying9
  a9 := Tryd.isAgg9
  z9 := Tryd.sizeOf9
  v9 := Tryd.zeroValue9
  t20 := Tryd.underlying20
  a20 := Tryd.isAgg20
  z20 := Tryd.sizeOf20
  v20 := Tryd.zeroValue20
  t21 := Tryd.underlying21
  a21 := Tryd.isAgg21
  z21 := Tryd.sizeOf21
  v21 := Tryd.zeroValue21
  t37 := Tryd.underlying103
  a37 := Tryd.isAgg103
  z37 := Tryd.sizeOf103
  v37 := Tryd.zeroValue103
  t46 := Tryd.underlying230
  a46 := Tryd.isAgg230
  z46 := Tryd.sizeOf230
  v46 := Tryd.zeroValue230
  t51 := Tryd.underlying208
  a51 := Tryd.isAgg208
  z51 := Tryd.sizeOf208
  v51 := Tryd.zeroValue208
  t53 := Tryd.underlying246
  a53 := Tryd.isAgg246
  z53 := Tryd.sizeOf246
  v53 := Tryd.zeroValue246
  t75 := Tryd.underlying81
  a75 := Tryd.isAgg81
  z75 := Tryd.sizeOf81
  v75 := Tryd.zeroValue81
  t76 := Tryd.underlying203
  a76 := Tryd.isAgg203
  z76 := Tryd.sizeOf203
  v76 := Tryd.zeroValue203
  t85 := Tryd.underlying196
  a85 := Tryd.isAgg196
  z85 := Tryd.sizeOf196
  v85 := Tryd.zeroValue196
  t127 := Tryd.underlying277
  a127 := Tryd.isAgg277
  z127 := Tryd.sizeOf277
  v127 := Tryd.zeroValue277
  t143 := Tryd.underlying183
  a143 := Tryd.isAgg183
  z143 := Tryd.sizeOf183
  v143 := Tryd.zeroValue183
  t145 := Tryd.underlying185
  a145 := Tryd.isAgg185
  z145 := Tryd.sizeOf185
  v145 := Tryd.zeroValue185
  t167 := Tryd.underlying245
  a167 := Tryd.isAgg245
  z167 := Tryd.sizeOf245
  v167 := Tryd.zeroValue245
  t168 := Tryd.underlying249
  a168 := Tryd.isAgg249
  z168 := Tryd.sizeOf249
  v168 := Tryd.zeroValue249
  t171 := Tryd.underlying282
  a171 := Tryd.isAgg282
  z171 := Tryd.sizeOf282
  v171 := Tryd.zeroValue282
  t173 := Tryd.underlying284
  a173 := Tryd.isAgg284
  z173 := Tryd.sizeOf284
  v173 := Tryd.zeroValue284
  t175 := Tryd.underlying247
  a175 := Tryd.isAgg247
  z175 := Tryd.sizeOf247
  v175 := Tryd.zeroValue247
  t210 := Tryd.underlying270
  a210 := Tryd.isAgg270
  z210 := Tryd.sizeOf270
  v210 := Tryd.zeroValue270
  t212 := Tryd.underlying288
  a212 := Tryd.isAgg288
  z212 := Tryd.sizeOf288
  v212 := Tryd.zeroValue288
  t213 := Tryd.underlying289
  a213 := Tryd.isAgg289
  z213 := Tryd.sizeOf289
  t232 := Tryd.underlying291
  a232 := Tryd.isAgg291
  z232 := Tryd.sizeOf291
  v232 := Tryd.zeroValue291
  t233 := Tryd.underlying292
  a233 := Tryd.isAgg292
  z233 := Tryd.sizeOf292
  v233 := Tryd.zeroValue292
  g15 := by kernel_rfl
  g16 := by kernel_rfl
  g17 := by kernel_rfl
  g18 := by kernel_rfl
  g19 := by kernel_rfl
  t80 := Tryd.underlying293
  a80 := Tryd.isAgg293
  z80 := Tryd.sizeOf293
  v80 := Tryd.zeroValue293
  i0 := by kernel_rfl
  i2 := by kernel_rfl
  i3 := by kernel_rfl
  i4 := by kernel_rfl
  i5 := by kernel_rfl
  i9 := by kernel_rfl
  i20 := by kernel_rfl
  i21 := by kernel_rfl
  i37 := by kernel_rfl
  i46 := by kernel_rfl
  i51 := by kernel_rfl
  i53 := by kernel_rfl
  i75 := by kernel_rfl
  i76 := by kernel_rfl
  i80 := by kernel_rfl
  i85 := by kernel_rfl
  i127 := by kernel_rfl
  i143 := by kernel_rfl
  i145 := by kernel_rfl
  i167 := by kernel_rfl
  i168 := by kernel_rfl
  i171 := by kernel_rfl
  i173 := by kernel_rfl
  i175 := by kernel_rfl
  i210 := by kernel_rfl
  i212 := by kernel_rfl
  i232 := by kernel_rfl
  i233 := by kernel_rfl
  m15 := by kernel_rfl
  m16 := by kernel_rfl
  m17 := by kernel_rfl
  m18 := by kernel_rfl
  m19 := by kernel_rfl
  c0 := by kernel_rfl
  c2 := by kernel_rfl
  c3 := by kernel_rfl
  c4 := by kernel_rfl
  c5 := by kernel_rfl
  c9 := by kernel_rfl
  c20 := by kernel_rfl
  c21 := by kernel_rfl
  c37 := by kernel_rfl
  c46 := by kernel_rfl
  c51 := by kernel_rfl
  c53 := by kernel_rfl
  c75 := by kernel_rfl
  c76 := by kernel_rfl
  c80 := by kernel_rfl
  c85 := by kernel_rfl
  c127 := by kernel_rfl
  c143 := by kernel_rfl
  c145 := by kernel_rfl
  c167 := by kernel_rfl
  c168 := by kernel_rfl
  c171 := by kernel_rfl
  c173 := by kernel_rfl
  c175 := by kernel_rfl
  c210 := by kernel_rfl
  c212 := by kernel_rfl
  c213 := by kernel_rfl
  c232 := by kernel_rfl
  c233 := by kernel_rfl }
open Go.RowKit in
/-- strconv.Atoi, AT EVERY STRING THAT SPELLS AN int ('Lib.atoiAll .. = .ok v'; of whatever length: leading zeros count): v, AND NO ERROR. The world: as it was, or with the one new row that '[]byte(..)' lays. (LAID: no walk: one application.) -/
theorem Tryd.strconv_Atoi_ok (s : ByteArray) (hmax : s.size ≤ 9223372036854775806) (v : Int) (h : Lib.atoiAll s.data.toList = .ok v) (w : World) :
    Calls Tryd.prog 97 #[.string s] w fun e w' => e = .returned (.tuple #[.int .i64 v, .nilIface]) ∧ (w' = w ∨ ∃ t, w' = Lib.bytesWorld w 5 t) := Any.strconv_Atoi_ok Tryd.laysC172 s hmax v h w
def Tryd.lays190_ren : Go.Shelf.Ren := ⟨fun | 190 => 99 | 125 => 126 | 258 => 125 | 128 => 153 | 129 => 154 | 302 => 145 | 303 => 146 | 304 => 147 | 305 => 148 | 306 => 149 | 307 => 150 | 308 => 108 | 309 => 151 | 310 => 152 | 333 => 165 | 329 => 166 | 330 => 167 | 334 => 168 | 335 => 169 | 336 => 133 | 344 => 172 | n => n, fun | 31 => 29 | 9 => 9 | 3 => 3 | 46 => 230 | 0 => 0 | 51 => 208 | 53 => 246 | 4 => 4 | 183 => 256 | 182 => 255 | 131 => 189 | 5 => 5 | 218 => 271 | 222 => 275 | 228 => 278 | 229 => 279 | n => n, fun | n => n⟩
theorem Tryd.lays190 : Go.Proofs.Lays.n190 Tryd.prog Tryd.lays190_ren := {
  mixed := by kernel_rfl
  f125 := Tryd.func126.trans (congrArg some (by kernel_rfl))
  f128 := Tryd.func153.trans (congrArg some (by kernel_rfl))
  f129 := Tryd.func154.trans (congrArg some (by kernel_rfl))
  f190 := Tryd.func99.trans (congrArg some (by kernel_rfl))
  f258 := Tryd.func125.trans (congrArg some (by kernel_rfl))
  f302 := Tryd.func145.trans (congrArg some (by kernel_rfl))
  f303 := Tryd.func146.trans (congrArg some (by kernel_rfl))
  f304 := Tryd.func147.trans (congrArg some (by kernel_rfl))
  f305 := Tryd.func148.trans (congrArg some (by kernel_rfl))
  f306 := Tryd.func149.trans (congrArg some (by kernel_rfl))
  f307 := Tryd.func150.trans (congrArg some (by kernel_rfl))
  f308 := Tryd.func108.trans (congrArg some (by kernel_rfl))
  f309 := Tryd.func151.trans (congrArg some (by kernel_rfl))
  f310 := Tryd.func152.trans (congrArg some (by kernel_rfl))
  f329 := Tryd.func166.trans (congrArg some (by kernel_rfl))
  f330 := Tryd.func167.trans (congrArg some (by kernel_rfl))
  f333 := Tryd.func165.trans (congrArg some (by kernel_rfl))
  f334 := Tryd.func168.trans (congrArg some (by kernel_rfl))
  f335 := Tryd.func169.trans (congrArg some (by kernel_rfl))
  f336 := Tryd.func133.trans (congrArg some (by kernel_rfl))
  f344 := Tryd.func172.trans (congrArg some (by kernel_rfl))
  t0 := Tryd.underlying0
  a0 := Tryd.isAgg0
  z0 := Tryd.sizeOf0
  v0 := Tryd.zeroValue0
  t3 := Tryd.underlying3
  a3 := Tryd.isAgg3
  z3 := Tryd.sizeOf3
  v3 := Tryd.zeroValue3
  t4 := Tryd.underlying4
  a4 := Tryd.isAgg4
  z4 := Tryd.sizeOf4
  v4 := Tryd.zeroValue4
  t5 := Tryd.underlying5
  a5 := Tryd.isAgg5
  z5 := Tryd.sizeOf5
  v5 := Tryd.zeroValue5
  t9 := Tryd.underlying9
  a9 := Tryd.isAgg9
  z9 := Tryd.sizeOf9
  v9 := Tryd.zeroValue9
  t31 := Tryd.underlying29
  a31 := Tryd.isAgg29
  z31 := Tryd.sizeOf29
  v31 := Tryd.zeroValue29
  t46 := Tryd.underlying230
  a46 := Tryd.isAgg230
  z46 := Tryd.sizeOf230
  v46 := Tryd.zeroValue230
  t51 := Tryd.underlying208
  a51 := Tryd.isAgg208
  z51 := Tryd.sizeOf208
  v51 := Tryd.zeroValue208
  t53 := Tryd.underlying246
  a53 := Tryd.isAgg246
  z53 := Tryd.sizeOf246
  v53 := Tryd.zeroValue246
  t131 := Tryd.underlying189
  a131 := Tryd.isAgg189
  z131 := Tryd.sizeOf189
  v131 := Tryd.zeroValue189
  t182 := Tryd.underlying255
  a182 := Tryd.isAgg255
  z182 := Tryd.sizeOf255
  v182 := Tryd.zeroValue255
  t183 := Tryd.underlying256
  a183 := Tryd.isAgg256
  z183 := Tryd.sizeOf256
  v183 := Tryd.zeroValue256
  t218 := Tryd.underlying271
  a218 := Tryd.isAgg271
  z218 := Tryd.sizeOf271
  v218 := Tryd.zeroValue271
  t222 := Tryd.underlying275
  a222 := Tryd.isAgg275
  z222 := Tryd.sizeOf275
  v222 := Tryd.zeroValue275
  t228 := Tryd.underlying278
  a228 := Tryd.isAgg278
  z228 := Tryd.sizeOf278
  v228 := Tryd.zeroValue278
  t229 := Tryd.underlying279
  a229 := Tryd.isAgg279
  z229 := Tryd.sizeOf279
  v229 := Tryd.zeroValue279 }
open Go.Sort Go.RowKit in
theorem Tryd.slices_Sort_string (blk off cap : Nat) (ss : List (List UInt8)) (w : World) (hH : Holds encStr w blk off ss.toArray) (hblk : blk < w.heap.size) (hsz : ss.length < 4611686018427387904) :
    Calls Tryd.prog 99 #[.slice (some ⟨blk, off, none⟩) ss.length cap] w fun e w' =>
      e = .returned (.tuple #[]) ∧ ∃ n os, w' = grow (putRow encStr (Sort.ahead w n) blk off (ss.mergeSort fun x y => decide (x ≤ y)).toArray) os := Any.slices_Sort_string Tryd.lays190 blk off cap ss w hH hblk hsz
def Tryd.lays197_ren : Go.Shelf.Ren := ⟨fun | 197 => 107 | 260 => 132 | n => n, fun | 9 => 9 | 21 => 21 | 3 => 3 | 4 => 4 | 5 => 5 | 105 => 212 | 119 => 182 | 0 => 0 | 46 => 230 | 139 => 267 | 138 => 266 | n => n, fun | 3 => 3 | 4 => 4 | n => n⟩
theorem Tryd.lays197 : Go.Proofs.Lays.n197 Tryd.prog Tryd.lays197_ren := {
  mixed := by kernel_rfl
  f197 := Tryd.func107.trans (congrArg some (by kernel_rfl))
  f260 := Tryd.func132.trans (congrArg some (by kernel_rfl))
  t0 := Tryd.underlying0
  a0 := Tryd.isAgg0
  z0 := Tryd.sizeOf0
  v0 := Tryd.zeroValue0
  t3 := Tryd.underlying3
  a3 := Tryd.isAgg3
  z3 := Tryd.sizeOf3
  v3 := Tryd.zeroValue3
  t4 := Tryd.underlying4
  a4 := Tryd.isAgg4
  z4 := Tryd.sizeOf4
  v4 := Tryd.zeroValue4
  t5 := Tryd.underlying5
  a5 := Tryd.isAgg5
  z5 := Tryd.sizeOf5
  v5 := Tryd.zeroValue5
  t9 := Tryd.underlying9
  a9 := Tryd.isAgg9
  z9 := Tryd.sizeOf9
  v9 := Tryd.zeroValue9
  t21 := Tryd.underlying21
  a21 := Tryd.isAgg21
  z21 := Tryd.sizeOf21
  v21 := Tryd.zeroValue21
  t46 := Tryd.underlying230
  a46 := Tryd.isAgg230
  z46 := Tryd.sizeOf230
  v46 := Tryd.zeroValue230
  t105 := Tryd.underlying212
  a105 := Tryd.isAgg212
  z105 := Tryd.sizeOf212
  v105 := Tryd.zeroValue212
  t119 := Tryd.underlying182
  a119 := Tryd.isAgg182
  z119 := Tryd.sizeOf182
  t138 := Tryd.underlying266
  a138 := Tryd.isAgg266
  z138 := Tryd.sizeOf266
  v138 := Tryd.zeroValue266
  t139 := Tryd.underlying267
  a139 := Tryd.isAgg267
  z139 := Tryd.sizeOf267
  v139 := Tryd.zeroValue267
  g3 := by kernel_rfl
  g4 := by kernel_rfl }
open Go.RowKit Go.Lib in
/-- unicode/utf8.DecodeRuneInString: "DecodeRuneInString is like DecodeRune but its input is a string.": ("DecodeRune unpacks the first UTF-8 encoding in p and returns the rune and its width in bytes."): WHERE s BEGINS WITH AN ASCII BYTE x: (x, 1). (LAID: no walk: one application.) -/
theorem Tryd.utf8_DecodeRuneInString_ascii (s : ByteArray) (x : UInt8) (w : World) (h0 : s.data.toList[0]? = some x) (hx : x.toNat < 128) :
    Calls Tryd.prog 107 #[.string s] w fun e w' => e = .returned (.tuple #[.int .i32 x.toNat, .int .i64 1]) ∧ w' = w := Any.utf8_DecodeRuneInString_ascii Tryd.lays197 s x w h0 hx
def Tryd.laysNm216_ren : Go.Shelf.Ren := ⟨fun | 16 => 60 | n => n, fun | 24 => 29 | 9 => 9 | 4 => 4 | n => n, fun | n => n⟩
theorem Tryd.laysNm216 : Go.Proofs.Lays2.n16 Tryd.prog Tryd.laysNm216_ren := {
  mixed := by kernel_rfl
  f16 := Tryd.func60.trans (congrArg some (by kernel_rfl))
  t4 := Tryd.underlying4
  a4 := Tryd.isAgg4
  z4 := Tryd.sizeOf4
  v4 := Tryd.zeroValue4
  t9 := Tryd.underlying9
  a9 := Tryd.isAgg9
  z9 := Tryd.sizeOf9
  v9 := Tryd.zeroValue9
  t24 := Tryd.underlying29
  a24 := Tryd.isAgg29
  z24 := Tryd.sizeOf29
  v24 := Tryd.zeroValue29
  i9 := by kernel_rfl }
open Go.RowKit Go.Lib in
/-- slices.Clone at []string: "Clone returns a copy of the slice. The elements are copied using assignment, so this is a shallow clone. The result may have additional unused capacity. The result preserves the nilness of s.": OF A SLICE THAT IS NOT nil IT RETURNS A SLICE THAT IS NOT nil, OF THE SAME ELEMENTS, IN MEMORY OF THE CALL's OWN: in the how-to's words (6f): 'w'.ownsRow B e 1 v' n cells': v' begins at the head of a row among the blocks from B on (B: the heap's size at the call), not frozen, whose first cells are the elements · 'Below B w w'': below B all is as it was. The capacity is whatever the run-time gives. 'zs': what the cells behind the slice's address hold; 'zs.take n': its elements. (LAID: no walk: one application.) -/
theorem Tryd.slices_Clone_string (b off n c : Nat) (zs : List ByteArray) (w : World) (hz : n ≤ zs.length) (hbig : n * 16 ≤ 140737488355328) (hc : ∀ j, j < zs.length → w.cell? ⟨b, off + j, none⟩ = some (.string (zs.getD j ByteArray.empty))) :
    Calls Tryd.prog 60 #[.slice (some ⟨b, off, none⟩) n c] w fun e w' => ∃ v', e = .returned v' ∧ w'.ownsRow w.heap.size 9 1 v' n ((zs.take n).map (Value.string)) ∧ v' ≠ .slice none 0 0 ∧ Below w.heap.size w w' := Any.slices_Clone_string Tryd.laysNm216 b off n c zs w hz hbig hc
open Go.RowKit Go.Lib in
/-- The same at nil: nil comes back; the world is as it was. (LAID: no walk: one application.) -/
theorem Tryd.slices_Clone_string_nil (n c : Nat) (w : World) :
    Calls Tryd.prog 60 #[.slice none n c] w fun e w' => e = .returned (.slice none 0 0) ∧ w' = w := Any.slices_Clone_string_nil Tryd.laysNm216 n c w
open Go.RowKit Go.Lib in
/-- The same at a slice of length 0 that is not nil, WHATEVER ITS ADDRESS (no cell is asked for): a slice that is not nil and owns nothing comes back. (LAID: no walk: one application.) -/
theorem Tryd.slices_Clone_string_zero (a : Addr) (c : Nat) (w : World) :
    Calls Tryd.prog 60 #[.slice (some a) 0 c] w fun e w' => ∃ v', e = .returned v' ∧ w'.ownsRow w.heap.size 9 1 v' 0 [] ∧ v' ≠ .slice none 0 0 ∧ Below w.heap.size w w' := Any.slices_Clone_string_zero Tryd.laysNm216 a c w
end Go.Proofs
