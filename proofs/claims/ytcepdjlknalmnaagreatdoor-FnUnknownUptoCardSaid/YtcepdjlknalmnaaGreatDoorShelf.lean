/-
  DERIVED: THE SHELF's CONTRACTS AT THIS DUMP, IN PLAIN WORDS (tools/lay-plain.mjs out of 'TryzShelf.lean', which tools/lay-shelf.mjs wrote): THE SAME DECLARATIONS UNDER THE SAME NAMES: 'import', 'namespace', 'open', 'def', 'theorem' AND NOTHING ELSE: no command of the shelf's: FOR A HAND-IN. Each laying: the table of numbers ('.._ren') and one theorem, a field a fact of the dump's own or the kernel's comparison; each contract: ONE APPLICATION.
-/
import Derived.Shelf.Strings.TrimSpace
import Derived.Shelf.Small.Utf8
import Derived.Shelf.Small.Bits
import Derived.Shelf.Strconv.Atoi
import Derived.Shelf.Strconv.Itoa0
import Derived.Shelf.Strconv.Itoa1
import Derived.Shelf.LaysM
import Derived.Shelf.Strconv.Itoa2
import Derived.Shelf.Strconv.Itoa3
import Derived.Shelf.Strconv.AtoiErrFast
import Derived.Shelf.Strconv.ParseIntEmpty
import Derived.Shelf.Strconv.AtoiFail
import Derived.Shelf.Strconv.Clone
import Derived.Shelf.Strconv.SyntaxError
import Derived.Shelf.LaysC
import Derived.Shelf.Strconv.ToError
import Derived.Shelf.Strconv.Lower
import Derived.Shelf.Strconv.ParseUint10
import Derived.Shelf.Strconv.ParseUint10Empty
import Derived.Shelf.Strconv.ParseUint10Any
import Derived.Shelf.Strconv.ParseInt10
import Derived.Shelf.Strconv.AtoiLong
import Derived.Shelf.Strconv.AtoiInnerAll
import Derived.Shelf.Strconv.RangeError
import Derived.Shelf.Strconv.ToErrorRange
import Derived.Shelf.Strconv.AtoiAll
import Derived.Shelf.Strconv.ErrVarAll
import Derived.Shelf.Strconv.ParseUintEmpty
import Derived.Shelf.Strconv.ParseUint10b64
import Derived.Shelf.Strconv.ParseUint10b32
import Derived.Shelf.Strconv.ParseUint10b16
import Derived.Shelf.Strconv.ParseUint10b8
import Derived.Shelf.Strconv.ParseUint10At
import Derived.Shelf.Strconv.ParseInt10At64
import Derived.Shelf.Strconv.ParseInt10At32
import Derived.Shelf.Strconv.ParseInt10At16
import Derived.Shelf.Strconv.ParseInt10At8
import Derived.Shelf.Strconv.ParseInt10All
import Derived.Shelf.Strconv.ParseIntPublic10
import Derived.Shelf.Strconv.ErrVarParseInt
import Derived.Ground.MpProg
import Derived.Shelf.Pu.ParseUintPublic10
import Derived.Shelf.Pu.ErrVarParseUint
import Derived.Shelf.Strconv.AppendUint10
import Derived.Shelf.Strconv.AppendInt10
import Derived.Shelf.Strconv.AppendIntPublic10
import Derived.Shelf.Strings.Prefix
import Derived.Shelf.Unicode.Latin
import Derived.Shelf.Unicode.Decode
import Derived.Shelf.Unicode.DecodeSlow
import Derived.Shelf.Unicode.DecodeAny
import Derived.Shelf.Unicode.Is16White
import Derived.Shelf.Unicode.IsSpaceAny
import Derived.Shelf.Unicode.DecodeLast
import Derived.Shelf.Strings.TrimSpaceAny
import Derived.Shelf.Unicode.Is16Any
import Derived.Shelf.Unicode.Is32Any
import Derived.Shelf.Unicode.ExclAny
import Derived.Ground.Names2Prog
import Derived.Shelf.Slices.Clone
import Derived.Ground.SlgnProg
import Derived.Shelf.SlicesE.Clone
import Derived.Test.YtcepdjlknalmnaaGreatDoorProg
namespace Go.Proofs
open Go.Shelf
def Tryz.lays163_ren : Go.Shelf.Ren := ⟨fun | 163 => 138 | 237 => 151 | 199 => 152 | 238 => 153 | 272 => 169 | 261 => 170 | 273 => 171 | 197 => 172 | 315 => 193 | 311 => 194 | 312 => 195 | 271 => 196 | 260 => 197 | 120 => 211 | n => n, fun | 9 => 9 | 37 => 128 | 3 => 3 | 0 => 0 | 5 => 5 | 4 => 4 | 40 => 241 | 119 => 242 | 21 => 21 | 51 => 259 | 141 => 261 | 105 => 263 | 196 => 295 | 193 => 292 | 198 => 298 | 49 => 296 | 194 => 293 | 201 => 301 | 226 => 309 | 46 => 258 | 227 => 310 | 139 => 313 | 138 => 312 | n => n, fun | 0 => 2 | 6 => 3 | 3 => 7 | 4 => 8 | n => n⟩
theorem Tryz.lays163 : Go.Proofs.Lays.n163 Tryz.prog Tryz.lays163_ren := {
  mixed := by kernel_rfl
  f120 := Tryz.func211.trans (congrArg some (by kernel_rfl))
  f163 := Tryz.func138.trans (congrArg some (by kernel_rfl))
  f197 := Tryz.func172.trans (congrArg some (by kernel_rfl))
  f199 := Tryz.func152.trans (congrArg some (by kernel_rfl))
  f237 := Tryz.func151.trans (congrArg some (by kernel_rfl))
  f238 := Tryz.func153.trans (congrArg some (by kernel_rfl))
  f260 := Tryz.func197.trans (congrArg some (by kernel_rfl))
  f261 := Tryz.func170.trans (congrArg some (by kernel_rfl))
  f271 := Tryz.func196.trans (congrArg some (by kernel_rfl))
  f272 := Tryz.func169.trans (congrArg some (by kernel_rfl))
  f273 := Tryz.func171.trans (congrArg some (by kernel_rfl))
  f311 := Tryz.func194.trans (congrArg some (by kernel_rfl))
  f312 := Tryz.func195.trans (congrArg some (by kernel_rfl))
  f315 := Tryz.func193.trans (congrArg some (by kernel_rfl))
  t0 := Tryz.underlying0
  a0 := Tryz.isAgg0
  z0 := Tryz.sizeOf0
  v0 := Tryz.zeroValue0
  t3 := Tryz.underlying3
  a3 := Tryz.isAgg3
  z3 := Tryz.sizeOf3
  v3 := Tryz.zeroValue3
  t4 := Tryz.underlying4
  a4 := Tryz.isAgg4
  z4 := Tryz.sizeOf4
  v4 := Tryz.zeroValue4
  t5 := Tryz.underlying5
  a5 := Tryz.isAgg5
  z5 := Tryz.sizeOf5
  v5 := Tryz.zeroValue5
  t9 := Tryz.underlying9
  a9 := Tryz.isAgg9
  z9 := Tryz.sizeOf9
  v9 := Tryz.zeroValue9
  t21 := Tryz.underlying21
  a21 := Tryz.isAgg21
  z21 := Tryz.sizeOf21
  v21 := Tryz.zeroValue21
  t37 := Tryz.underlying128
  a37 := Tryz.isAgg128
  z37 := Tryz.sizeOf128
  v37 := Tryz.zeroValue128
  t40 := Tryz.underlying241
  a40 := Tryz.isAgg241
  z40 := Tryz.sizeOf241
  v40 := Tryz.zeroValue241
  t46 := Tryz.underlying258
  a46 := Tryz.isAgg258
  z46 := Tryz.sizeOf258
  v46 := Tryz.zeroValue258
  t49 := Tryz.underlying296
  a49 := Tryz.isAgg296
  z49 := Tryz.sizeOf296
  v49 := Tryz.zeroValue296
  t51 := Tryz.underlying259
  a51 := Tryz.isAgg259
  z51 := Tryz.sizeOf259
  v51 := Tryz.zeroValue259
  t105 := Tryz.underlying263
  a105 := Tryz.isAgg263
  z105 := Tryz.sizeOf263
  v105 := Tryz.zeroValue263
  t119 := Tryz.underlying242
  a119 := Tryz.isAgg242
  z119 := Tryz.sizeOf242
  t138 := Tryz.underlying312
  a138 := Tryz.isAgg312
  z138 := Tryz.sizeOf312
  v138 := Tryz.zeroValue312
  t139 := Tryz.underlying313
  a139 := Tryz.isAgg313
  z139 := Tryz.sizeOf313
  v139 := Tryz.zeroValue313
  t141 := Tryz.underlying261
  a141 := Tryz.isAgg261
  z141 := Tryz.sizeOf261
  v141 := Tryz.zeroValue261
  t193 := Tryz.underlying292
  a193 := Tryz.isAgg292
  z193 := Tryz.sizeOf292
  v193 := Tryz.zeroValue292
  t194 := Tryz.underlying293
  a194 := Tryz.isAgg293
  z194 := Tryz.sizeOf293
  v194 := Tryz.zeroValue293
  t196 := Tryz.underlying295
  a196 := Tryz.isAgg295
  z196 := Tryz.sizeOf295
  v196 := Tryz.zeroValue295
  t198 := Tryz.underlying298
  a198 := Tryz.isAgg298
  z198 := Tryz.sizeOf298
  v198 := Tryz.zeroValue298
  t201 := Tryz.underlying301
  a201 := Tryz.isAgg301
  z201 := Tryz.sizeOf301
  v201 := Tryz.zeroValue301
  t226 := Tryz.underlying309
  a226 := Tryz.isAgg309
  z226 := Tryz.sizeOf309
  v226 := Tryz.zeroValue309
  t227 := Tryz.underlying310
  a227 := Tryz.isAgg310
  z227 := Tryz.sizeOf310
  v227 := Tryz.zeroValue310
  g0 := by kernel_rfl
  g3 := by kernel_rfl
  g4 := by kernel_rfl
  g6 := by kernel_rfl }
theorem Tryz.Space_Extra_163 : Space.Extra Tryz.prog Tryz.lays163_ren := {
  gNamed := by kernel_rfl }
open Go.RowKit in
theorem Tryz.strings_TrimSpace (s : ByteArray) (w : World) (hs : s.size ≤ 9223372036854775807) (hascii : ∀ (j : Nat) b, s.data.toList[j]? = some b → b.toNat < 128) (htab : Lib.TabIs Tryz.prog w "strings.asciiSpace" .u8 Lib.asciiSpaceTab) :
    Calls Tryz.prog 138 #[.string s] w fun e w' => e = .returned (.string ⟨(Lib.trimSpace s.data.toList).toArray⟩) ∧ w' = Lib.bytesWorld w 5 s := Any.strings_TrimSpace Tryz.lays163 Tryz.Space_Extra_163 s w hs hascii htab
def Tryz.laysC172_ren : Go.Shelf.Ren := ⟨fun | 172 => 257 | 244 => 269 | 245 => 250 | 247 => 279 | 279 => 261 | 280 => 262 | 281 => 263 | 282 => 264 | 287 => 249 | 316 => 276 | 171 => 278 | 205 => 277 | 321 => 259 | 322 => 260 | 243 => 284 | 246 => 288 | 283 => 163 | 284 => 164 | 285 => 165 | 286 => 166 | 129 => 179 | 317 => 178 | 318 => 180 | 319 => 181 | 320 => 182 | 337 => 203 | 338 => 204 | n => n, fun | 9 => 9 | 3 => 3 | 75 => 118 | 76 => 336 | 4 => 4 | 5 => 5 | 167 => 338 | 37 => 128 | 0 => 0 | 85 => 330 | 2 => 2 | 168 => 340 | 53 => 22 | 175 => 237 | 46 => 258 | 210 => 346 | 127 => 347 | 145 => 350 | 143 => 348 | 21 => 21 | 171 => 252 | 173 => 254 | 212 => 280 | 51 => 259 | 20 => 20 | 213 => 281 | 232 => 315 | 233 => 316 | 80 => 196 | n => n, fun | 15 => 13 | 16 => 14 | 17 => 5 | 18 => 9 | 19 => 10 | n => n⟩
theorem Tryz.laysC172 : Go.Proofs.LaysC.n172 Tryz.prog Tryz.laysC172_ren := {
  mixed := by kernel_rfl
  f129 := Tryz.func179.trans (congrArg some (by kernel_rfl))
  f171 := Tryz.func278.trans (congrArg some (by kernel_rfl))
  f172 := Tryz.func257.trans (congrArg some (by kernel_rfl))
  f205 := Tryz.func277.trans (congrArg some (by kernel_rfl))
  f243 := Tryz.func284.trans (congrArg some (by kernel_rfl))
  f244 := Tryz.func269.trans (congrArg some (by kernel_rfl))
  f245 := Tryz.func250.trans (congrArg some (by kernel_rfl))
  f246 := Tryz.func288.trans (congrArg some (by kernel_rfl))
  f247 := Tryz.func279.trans (congrArg some (by kernel_rfl))
  f279 := Tryz.func261.trans (congrArg some (by kernel_rfl))
  f280 := Tryz.func262.trans (congrArg some (by kernel_rfl))
  f281 := Tryz.func263.trans (congrArg some (by kernel_rfl))
  f282 := Tryz.func264.trans (congrArg some (by kernel_rfl))
  f283 := Tryz.func163.trans (congrArg some (by kernel_rfl))
  f284 := Tryz.func164.trans (congrArg some (by kernel_rfl))
  f285 := Tryz.func165.trans (congrArg some (by kernel_rfl))
  f286 := Tryz.func166.trans (congrArg some (by kernel_rfl))
  f287 := Tryz.func249.trans (congrArg some (by kernel_rfl))
  f316 := Tryz.func276.trans (congrArg some (by kernel_rfl))
  f317 := Tryz.func178.trans (congrArg some (by kernel_rfl))
  f318 := Tryz.func180.trans (congrArg some (by kernel_rfl))
  f319 := Tryz.func181.trans (congrArg some (by kernel_rfl))
  f320 := Tryz.func182.trans (congrArg some (by kernel_rfl))
  f321 := Tryz.func259.trans (congrArg some (by kernel_rfl))
  f322 := Tryz.func260.trans (congrArg some (by kernel_rfl))
  f337 := Tryz.func203.trans (congrArg some (by kernel_rfl))
  f338 := Tryz.func204.trans (congrArg some (by kernel_rfl))
  t0 := Tryz.underlying0
  a0 := Tryz.isAgg0
  z0 := Tryz.sizeOf0
  v0 := Tryz.zeroValue0
  t2 := Tryz.underlying2
  a2 := Tryz.isAgg2
  z2 := Tryz.sizeOf2
  v2 := Tryz.zeroValue2
  t3 := Tryz.underlying3
  a3 := Tryz.isAgg3
  z3 := Tryz.sizeOf3
  v3 := Tryz.zeroValue3
  t4 := Tryz.underlying4
  a4 := Tryz.isAgg4
  z4 := Tryz.sizeOf4
  v4 := Tryz.zeroValue4
  t5 := Tryz.underlying5
  a5 := Tryz.isAgg5
  z5 := Tryz.sizeOf5
  v5 := Tryz.zeroValue5
  t9 := Tryz.underlying9
  a9 := Tryz.isAgg9
  z9 := Tryz.sizeOf9
  v9 := Tryz.zeroValue9
  t20 := Tryz.underlying20
  a20 := Tryz.isAgg20
  z20 := Tryz.sizeOf20
  v20 := Tryz.zeroValue20
  t21 := Tryz.underlying21
  a21 := Tryz.isAgg21
  z21 := Tryz.sizeOf21
  v21 := Tryz.zeroValue21
  t37 := Tryz.underlying128
  a37 := Tryz.isAgg128
  z37 := Tryz.sizeOf128
  v37 := Tryz.zeroValue128
  t46 := Tryz.underlying258
  a46 := Tryz.isAgg258
  z46 := Tryz.sizeOf258
  v46 := Tryz.zeroValue258
  t51 := Tryz.underlying259
  a51 := Tryz.isAgg259
  z51 := Tryz.sizeOf259
  v51 := Tryz.zeroValue259
  t53 := Tryz.underlying22
  a53 := Tryz.isAgg22
  z53 := Tryz.sizeOf22
  v53 := Tryz.zeroValue22
  t75 := Tryz.underlying118
  a75 := Tryz.isAgg118
  z75 := Tryz.sizeOf118
  v75 := Tryz.zeroValue118
  t76 := Tryz.underlying336
  a76 := Tryz.isAgg336
  z76 := Tryz.sizeOf336
  v76 := Tryz.zeroValue336
  t85 := Tryz.underlying330
  a85 := Tryz.isAgg330
  z85 := Tryz.sizeOf330
  v85 := Tryz.zeroValue330
  t127 := Tryz.underlying347
  a127 := Tryz.isAgg347
  z127 := Tryz.sizeOf347
  v127 := Tryz.zeroValue347
  t143 := Tryz.underlying348
  a143 := Tryz.isAgg348
  z143 := Tryz.sizeOf348
  v143 := Tryz.zeroValue348
  t145 := Tryz.underlying350
  a145 := Tryz.isAgg350
  z145 := Tryz.sizeOf350
  v145 := Tryz.zeroValue350
  t167 := Tryz.underlying338
  a167 := Tryz.isAgg338
  z167 := Tryz.sizeOf338
  v167 := Tryz.zeroValue338
  t168 := Tryz.underlying340
  a168 := Tryz.isAgg340
  z168 := Tryz.sizeOf340
  v168 := Tryz.zeroValue340
  t171 := Tryz.underlying252
  a171 := Tryz.isAgg252
  z171 := Tryz.sizeOf252
  v171 := Tryz.zeroValue252
  t173 := Tryz.underlying254
  a173 := Tryz.isAgg254
  z173 := Tryz.sizeOf254
  v173 := Tryz.zeroValue254
  t175 := Tryz.underlying237
  a175 := Tryz.isAgg237
  z175 := Tryz.sizeOf237
  v175 := Tryz.zeroValue237
  t210 := Tryz.underlying346
  a210 := Tryz.isAgg346
  z210 := Tryz.sizeOf346
  v210 := Tryz.zeroValue346
  t212 := Tryz.underlying280
  a212 := Tryz.isAgg280
  z212 := Tryz.sizeOf280
  v212 := Tryz.zeroValue280
  t213 := Tryz.underlying281
  a213 := Tryz.isAgg281
  z213 := Tryz.sizeOf281
  t232 := Tryz.underlying315
  a232 := Tryz.isAgg315
  z232 := Tryz.sizeOf315
  v232 := Tryz.zeroValue315
  t233 := Tryz.underlying316
  a233 := Tryz.isAgg316
  z233 := Tryz.sizeOf316
  v233 := Tryz.zeroValue316
  g15 := by kernel_rfl
  g16 := by kernel_rfl
  g17 := by kernel_rfl
  g18 := by kernel_rfl
  g19 := by kernel_rfl
  t80 := Tryz.underlying196
  a80 := Tryz.isAgg196
  z80 := Tryz.sizeOf196
  v80 := Tryz.zeroValue196
  i0 := by kernel_rfl
  i2 := by kernel_rfl
  i3 := by kernel_rfl
  i4 := by kernel_rfl
  i5 := by kernel_rfl
  i9 := by kernel_rfl
  i20 := by kernel_rfl
  i21 := by kernel_rfl
  i37 := by kernel_rfl
  i46 := by kernel_rfl
  i51 := by kernel_rfl
  i53 := by kernel_rfl
  i75 := by kernel_rfl
  i76 := by kernel_rfl
  i80 := by kernel_rfl
  i85 := by kernel_rfl
  i127 := by kernel_rfl
  i143 := by kernel_rfl
  i145 := by kernel_rfl
  i167 := by kernel_rfl
  i168 := by kernel_rfl
  i171 := by kernel_rfl
  i173 := by kernel_rfl
  i175 := by kernel_rfl
  i210 := by kernel_rfl
  i212 := by kernel_rfl
  i232 := by kernel_rfl
  i233 := by kernel_rfl
  m15 := by kernel_rfl
  m16 := by kernel_rfl
  m17 := by kernel_rfl
  m18 := by kernel_rfl
  m19 := by kernel_rfl
  c0 := by kernel_rfl
  c2 := by kernel_rfl
  c3 := by kernel_rfl
  c4 := by kernel_rfl
  c5 := by kernel_rfl
  c9 := by kernel_rfl
  c20 := by kernel_rfl
  c21 := by kernel_rfl
  c37 := by kernel_rfl
  c46 := by kernel_rfl
  c51 := by kernel_rfl
  c53 := by kernel_rfl
  c75 := by kernel_rfl
  c76 := by kernel_rfl
  c80 := by kernel_rfl
  c85 := by kernel_rfl
  c127 := by kernel_rfl
  c143 := by kernel_rfl
  c145 := by kernel_rfl
  c167 := by kernel_rfl
  c168 := by kernel_rfl
  c171 := by kernel_rfl
  c173 := by kernel_rfl
  c175 := by kernel_rfl
  c210 := by kernel_rfl
  c212 := by kernel_rfl
  c213 := by kernel_rfl
  c232 := by kernel_rfl
  c233 := by kernel_rfl }
open Go.RowKit in
/-- strconv.Atoi, AT EVERY STRING THAT SPELLS AN int ('Lib.atoiAll .. = .ok v'; of whatever length: leading zeros count): v, AND NO ERROR. The world: as it was, or with the one new row that '[]byte(..)' lays. (LAID: no walk: one application.) -/
theorem Tryz.strconv_Atoi_ok (s : ByteArray) (hmax : s.size ≤ 9223372036854775806) (v : Int) (h : Lib.atoiAll s.data.toList = .ok v) (w : World) :
    Calls Tryz.prog 257 #[.string s] w fun e w' => e = .returned (.tuple #[.int .i64 v, .nilIface]) ∧ (w' = w ∨ ∃ t, w' = Lib.bytesWorld w 5 t) := Any.strconv_Atoi_ok Tryz.laysC172 s hmax v h w
def Tryz.laysC174_ren : Go.Shelf.Ren := ⟨fun | 174 => 266 | 247 => 279 | 245 => 250 | 287 => 249 | 279 => 261 | 280 => 262 | 281 => 263 | 282 => 264 | 321 => 259 | 322 => 260 | 316 => 276 | 171 => 278 | 205 => 277 | 243 => 284 | 246 => 288 | 283 => 163 | 284 => 164 | 285 => 165 | 286 => 166 | 129 => 179 | 317 => 178 | 318 => 180 | 319 => 181 | 320 => 182 | 337 => 203 | 338 => 204 | n => n, fun | 9 => 9 | 3 => 3 | 2 => 2 | 75 => 118 | 85 => 330 | 4 => 4 | 167 => 338 | 5 => 5 | 53 => 22 | 175 => 237 | 46 => 258 | 168 => 340 | 37 => 128 | 0 => 0 | 210 => 346 | 21 => 21 | 127 => 347 | 145 => 350 | 143 => 348 | 171 => 252 | 173 => 254 | 212 => 280 | 51 => 259 | 20 => 20 | 213 => 281 | 232 => 315 | 233 => 316 | 80 => 196 | n => n, fun | 15 => 13 | 16 => 14 | 17 => 5 | 18 => 9 | 19 => 10 | n => n⟩
theorem Tryz.laysC174 : Go.Proofs.LaysC.n174 Tryz.prog Tryz.laysC174_ren := {
  mixed := by kernel_rfl
  f129 := Tryz.func179.trans (congrArg some (by kernel_rfl))
  f171 := Tryz.func278.trans (congrArg some (by kernel_rfl))
  f174 := Tryz.func266.trans (congrArg some (by kernel_rfl))
  f205 := Tryz.func277.trans (congrArg some (by kernel_rfl))
  f243 := Tryz.func284.trans (congrArg some (by kernel_rfl))
  f245 := Tryz.func250.trans (congrArg some (by kernel_rfl))
  f246 := Tryz.func288.trans (congrArg some (by kernel_rfl))
  f247 := Tryz.func279.trans (congrArg some (by kernel_rfl))
  f279 := Tryz.func261.trans (congrArg some (by kernel_rfl))
  f280 := Tryz.func262.trans (congrArg some (by kernel_rfl))
  f281 := Tryz.func263.trans (congrArg some (by kernel_rfl))
  f282 := Tryz.func264.trans (congrArg some (by kernel_rfl))
  f283 := Tryz.func163.trans (congrArg some (by kernel_rfl))
  f284 := Tryz.func164.trans (congrArg some (by kernel_rfl))
  f285 := Tryz.func165.trans (congrArg some (by kernel_rfl))
  f286 := Tryz.func166.trans (congrArg some (by kernel_rfl))
  f287 := Tryz.func249.trans (congrArg some (by kernel_rfl))
  f316 := Tryz.func276.trans (congrArg some (by kernel_rfl))
  f317 := Tryz.func178.trans (congrArg some (by kernel_rfl))
  f318 := Tryz.func180.trans (congrArg some (by kernel_rfl))
  f319 := Tryz.func181.trans (congrArg some (by kernel_rfl))
  f320 := Tryz.func182.trans (congrArg some (by kernel_rfl))
  f321 := Tryz.func259.trans (congrArg some (by kernel_rfl))
  f322 := Tryz.func260.trans (congrArg some (by kernel_rfl))
  f337 := Tryz.func203.trans (congrArg some (by kernel_rfl))
  f338 := Tryz.func204.trans (congrArg some (by kernel_rfl))
  t0 := Tryz.underlying0
  a0 := Tryz.isAgg0
  z0 := Tryz.sizeOf0
  v0 := Tryz.zeroValue0
  t2 := Tryz.underlying2
  a2 := Tryz.isAgg2
  z2 := Tryz.sizeOf2
  v2 := Tryz.zeroValue2
  t3 := Tryz.underlying3
  a3 := Tryz.isAgg3
  z3 := Tryz.sizeOf3
  v3 := Tryz.zeroValue3
  t4 := Tryz.underlying4
  a4 := Tryz.isAgg4
  z4 := Tryz.sizeOf4
  v4 := Tryz.zeroValue4
  t5 := Tryz.underlying5
  a5 := Tryz.isAgg5
  z5 := Tryz.sizeOf5
  v5 := Tryz.zeroValue5
  t9 := Tryz.underlying9
  a9 := Tryz.isAgg9
  z9 := Tryz.sizeOf9
  v9 := Tryz.zeroValue9
  t20 := Tryz.underlying20
  a20 := Tryz.isAgg20
  z20 := Tryz.sizeOf20
  v20 := Tryz.zeroValue20
  t21 := Tryz.underlying21
  a21 := Tryz.isAgg21
  z21 := Tryz.sizeOf21
  v21 := Tryz.zeroValue21
  t37 := Tryz.underlying128
  a37 := Tryz.isAgg128
  z37 := Tryz.sizeOf128
  v37 := Tryz.zeroValue128
  t46 := Tryz.underlying258
  a46 := Tryz.isAgg258
  z46 := Tryz.sizeOf258
  v46 := Tryz.zeroValue258
  t51 := Tryz.underlying259
  a51 := Tryz.isAgg259
  z51 := Tryz.sizeOf259
  v51 := Tryz.zeroValue259
  t53 := Tryz.underlying22
  a53 := Tryz.isAgg22
  z53 := Tryz.sizeOf22
  v53 := Tryz.zeroValue22
  t75 := Tryz.underlying118
  a75 := Tryz.isAgg118
  z75 := Tryz.sizeOf118
  v75 := Tryz.zeroValue118
  t85 := Tryz.underlying330
  a85 := Tryz.isAgg330
  z85 := Tryz.sizeOf330
  v85 := Tryz.zeroValue330
  t127 := Tryz.underlying347
  a127 := Tryz.isAgg347
  z127 := Tryz.sizeOf347
  v127 := Tryz.zeroValue347
  t143 := Tryz.underlying348
  a143 := Tryz.isAgg348
  z143 := Tryz.sizeOf348
  v143 := Tryz.zeroValue348
  t145 := Tryz.underlying350
  a145 := Tryz.isAgg350
  z145 := Tryz.sizeOf350
  v145 := Tryz.zeroValue350
  t167 := Tryz.underlying338
  a167 := Tryz.isAgg338
  z167 := Tryz.sizeOf338
  v167 := Tryz.zeroValue338
  t168 := Tryz.underlying340
  a168 := Tryz.isAgg340
  z168 := Tryz.sizeOf340
  v168 := Tryz.zeroValue340
  t171 := Tryz.underlying252
  a171 := Tryz.isAgg252
  z171 := Tryz.sizeOf252
  v171 := Tryz.zeroValue252
  t173 := Tryz.underlying254
  a173 := Tryz.isAgg254
  z173 := Tryz.sizeOf254
  v173 := Tryz.zeroValue254
  t175 := Tryz.underlying237
  a175 := Tryz.isAgg237
  z175 := Tryz.sizeOf237
  v175 := Tryz.zeroValue237
  t210 := Tryz.underlying346
  a210 := Tryz.isAgg346
  z210 := Tryz.sizeOf346
  v210 := Tryz.zeroValue346
  t212 := Tryz.underlying280
  a212 := Tryz.isAgg280
  z212 := Tryz.sizeOf280
  v212 := Tryz.zeroValue280
  t213 := Tryz.underlying281
  a213 := Tryz.isAgg281
  z213 := Tryz.sizeOf281
  t232 := Tryz.underlying315
  a232 := Tryz.isAgg315
  z232 := Tryz.sizeOf315
  v232 := Tryz.zeroValue315
  t233 := Tryz.underlying316
  a233 := Tryz.isAgg316
  z233 := Tryz.sizeOf316
  v233 := Tryz.zeroValue316
  g15 := by kernel_rfl
  g16 := by kernel_rfl
  g17 := by kernel_rfl
  g18 := by kernel_rfl
  g19 := by kernel_rfl
  t80 := Tryz.underlying196
  a80 := Tryz.isAgg196
  z80 := Tryz.sizeOf196
  v80 := Tryz.zeroValue196
  i0 := by kernel_rfl
  i2 := by kernel_rfl
  i3 := by kernel_rfl
  i4 := by kernel_rfl
  i5 := by kernel_rfl
  i9 := by kernel_rfl
  i20 := by kernel_rfl
  i21 := by kernel_rfl
  i37 := by kernel_rfl
  i46 := by kernel_rfl
  i51 := by kernel_rfl
  i53 := by kernel_rfl
  i75 := by kernel_rfl
  i80 := by kernel_rfl
  i85 := by kernel_rfl
  i127 := by kernel_rfl
  i143 := by kernel_rfl
  i145 := by kernel_rfl
  i167 := by kernel_rfl
  i168 := by kernel_rfl
  i171 := by kernel_rfl
  i173 := by kernel_rfl
  i175 := by kernel_rfl
  i210 := by kernel_rfl
  i212 := by kernel_rfl
  i232 := by kernel_rfl
  i233 := by kernel_rfl
  m15 := by kernel_rfl
  m16 := by kernel_rfl
  m17 := by kernel_rfl
  m18 := by kernel_rfl
  m19 := by kernel_rfl
  c0 := by kernel_rfl
  c2 := by kernel_rfl
  c3 := by kernel_rfl
  c4 := by kernel_rfl
  c5 := by kernel_rfl
  c9 := by kernel_rfl
  c20 := by kernel_rfl
  c21 := by kernel_rfl
  c37 := by kernel_rfl
  c46 := by kernel_rfl
  c51 := by kernel_rfl
  c53 := by kernel_rfl
  c75 := by kernel_rfl
  c80 := by kernel_rfl
  c85 := by kernel_rfl
  c127 := by kernel_rfl
  c143 := by kernel_rfl
  c145 := by kernel_rfl
  c167 := by kernel_rfl
  c168 := by kernel_rfl
  c171 := by kernel_rfl
  c173 := by kernel_rfl
  c175 := by kernel_rfl
  c210 := by kernel_rfl
  c212 := by kernel_rfl
  c213 := by kernel_rfl
  c232 := by kernel_rfl
  c233 := by kernel_rfl }
open Go.RowKit in
/-- strconv.ParseInt(s, 10, 64), AT EVERY STRING THAT SPELLS AN int64 ('Lib.parseIntB 64 s.data.toList = .ok v'): v, AND NO ERROR. (LAID: no walk: one application.) -/
theorem Tryz.strconv_ParseInt_10_at64_ok (s : ByteArray) (hmax : s.size ≤ 9223372036854775806) (v : Int) (h : Lib.parseIntB 64 s.data.toList = .ok v) (w : World) :
    Calls Tryz.prog 266 #[.string s, .int .i64 10, .int .i64 64] w fun e w' => e = .returned (.tuple #[.int .i64 v, .nilIface]) ∧ (w' = w ∨ ∃ t, w' = Lib.bytesWorld w 5 t) := Any.strconv_ParseInt_10_at64_ok Tryz.laysC174 s hmax v h w
def Tryz.laysPu14_ren : Go.Shelf.Ren := ⟨fun | 14 => 240 | 16 => 249 | 17 => 250 | 19 => 259 | 20 => 260 | 21 => 261 | 22 => 262 | 23 => 263 | 24 => 264 | 25 => 276 | 27 => 278 | 26 => 277 | 28 => 284 | 29 => 288 | 30 => 163 | 31 => 164 | 32 => 165 | 33 => 166 | 35 => 179 | 34 => 178 | 36 => 180 | 37 => 181 | 38 => 182 | 39 => 203 | 40 => 204 | n => n, fun | 9 => 9 | 3 => 3 | 22 => 22 | 24 => 118 | 25 => 237 | 4 => 4 | 34 => 338 | 5 => 5 | 36 => 258 | 37 => 128 | 0 => 0 | 39 => 340 | 21 => 21 | 44 => 346 | 47 => 347 | 50 => 350 | 48 => 348 | 2 => 2 | 52 => 252 | 55 => 254 | 59 => 280 | 60 => 259 | 20 => 20 | 61 => 281 | 65 => 315 | 66 => 316 | 67 => 196 | n => n, fun | 0 => 13 | 1 => 14 | 2 => 5 | 3 => 9 | 4 => 10 | n => n⟩
theorem Tryz.laysPu14 : Go.Proofs.LaysPu.n14 Tryz.prog Tryz.laysPu14_ren := {
  mixed := by kernel_rfl
  f14 := Tryz.func240.trans (congrArg some (by kernel_rfl))
  f16 := Tryz.func249.trans (congrArg some (by kernel_rfl))
  f17 := Tryz.func250.trans (congrArg some (by kernel_rfl))
  f19 := Tryz.func259.trans (congrArg some (by kernel_rfl))
  f20 := Tryz.func260.trans (congrArg some (by kernel_rfl))
  f21 := Tryz.func261.trans (congrArg some (by kernel_rfl))
  f22 := Tryz.func262.trans (congrArg some (by kernel_rfl))
  f23 := Tryz.func263.trans (congrArg some (by kernel_rfl))
  f24 := Tryz.func264.trans (congrArg some (by kernel_rfl))
  f25 := Tryz.func276.trans (congrArg some (by kernel_rfl))
  f26 := Tryz.func277.trans (congrArg some (by kernel_rfl))
  f27 := Tryz.func278.trans (congrArg some (by kernel_rfl))
  f28 := Tryz.func284.trans (congrArg some (by kernel_rfl))
  f29 := Tryz.func288.trans (congrArg some (by kernel_rfl))
  f30 := Tryz.func163.trans (congrArg some (by kernel_rfl))
  f31 := Tryz.func164.trans (congrArg some (by kernel_rfl))
  f32 := Tryz.func165.trans (congrArg some (by kernel_rfl))
  f33 := Tryz.func166.trans (congrArg some (by kernel_rfl))
  f34 := Tryz.func178.trans (congrArg some (by kernel_rfl))
  f35 := Tryz.func179.trans (congrArg some (by kernel_rfl))
  f36 := Tryz.func180.trans (congrArg some (by kernel_rfl))
  f37 := Tryz.func181.trans (congrArg some (by kernel_rfl))
  f38 := Tryz.func182.trans (congrArg some (by kernel_rfl))
  f39 := Tryz.func203.trans (congrArg some (by kernel_rfl))
  f40 := Tryz.func204.trans (congrArg some (by kernel_rfl))
  t0 := Tryz.underlying0
  a0 := Tryz.isAgg0
  z0 := Tryz.sizeOf0
  v0 := Tryz.zeroValue0
  i0 := by kernel_rfl
  t2 := Tryz.underlying2
  a2 := Tryz.isAgg2
  z2 := Tryz.sizeOf2
  v2 := Tryz.zeroValue2
  i2 := by kernel_rfl
  t3 := Tryz.underlying3
  a3 := Tryz.isAgg3
  z3 := Tryz.sizeOf3
  v3 := Tryz.zeroValue3
  i3 := by kernel_rfl
  t4 := Tryz.underlying4
  a4 := Tryz.isAgg4
  z4 := Tryz.sizeOf4
  v4 := Tryz.zeroValue4
  i4 := by kernel_rfl
  t5 := Tryz.underlying5
  a5 := Tryz.isAgg5
  z5 := Tryz.sizeOf5
  v5 := Tryz.zeroValue5
  i5 := by kernel_rfl
  t9 := Tryz.underlying9
  a9 := Tryz.isAgg9
  z9 := Tryz.sizeOf9
  v9 := Tryz.zeroValue9
  i9 := by kernel_rfl
  t20 := Tryz.underlying20
  a20 := Tryz.isAgg20
  z20 := Tryz.sizeOf20
  v20 := Tryz.zeroValue20
  i20 := by kernel_rfl
  t21 := Tryz.underlying21
  a21 := Tryz.isAgg21
  z21 := Tryz.sizeOf21
  v21 := Tryz.zeroValue21
  i21 := by kernel_rfl
  t22 := Tryz.underlying22
  a22 := Tryz.isAgg22
  z22 := Tryz.sizeOf22
  v22 := Tryz.zeroValue22
  i22 := by kernel_rfl
  t24 := Tryz.underlying118
  a24 := Tryz.isAgg118
  z24 := Tryz.sizeOf118
  v24 := Tryz.zeroValue118
  i24 := by kernel_rfl
  t25 := Tryz.underlying237
  a25 := Tryz.isAgg237
  z25 := Tryz.sizeOf237
  v25 := Tryz.zeroValue237
  i25 := by kernel_rfl
  t34 := Tryz.underlying338
  a34 := Tryz.isAgg338
  z34 := Tryz.sizeOf338
  v34 := Tryz.zeroValue338
  i34 := by kernel_rfl
  c34 := by kernel_rfl
  t36 := Tryz.underlying258
  a36 := Tryz.isAgg258
  z36 := Tryz.sizeOf258
  v36 := Tryz.zeroValue258
  i36 := by kernel_rfl
  t37 := Tryz.underlying128
  a37 := Tryz.isAgg128
  z37 := Tryz.sizeOf128
  v37 := Tryz.zeroValue128
  i37 := by kernel_rfl
  t39 := Tryz.underlying340
  a39 := Tryz.isAgg340
  z39 := Tryz.sizeOf340
  v39 := Tryz.zeroValue340
  i39 := by kernel_rfl
  t44 := Tryz.underlying346
  a44 := Tryz.isAgg346
  z44 := Tryz.sizeOf346
  v44 := Tryz.zeroValue346
  i44 := by kernel_rfl
  t47 := Tryz.underlying347
  a47 := Tryz.isAgg347
  z47 := Tryz.sizeOf347
  v47 := Tryz.zeroValue347
  i47 := by kernel_rfl
  t48 := Tryz.underlying348
  a48 := Tryz.isAgg348
  z48 := Tryz.sizeOf348
  v48 := Tryz.zeroValue348
  i48 := by kernel_rfl
  t50 := Tryz.underlying350
  a50 := Tryz.isAgg350
  z50 := Tryz.sizeOf350
  v50 := Tryz.zeroValue350
  i50 := by kernel_rfl
  t52 := Tryz.underlying252
  a52 := Tryz.isAgg252
  z52 := Tryz.sizeOf252
  v52 := Tryz.zeroValue252
  i52 := by kernel_rfl
  t55 := Tryz.underlying254
  a55 := Tryz.isAgg254
  z55 := Tryz.sizeOf254
  v55 := Tryz.zeroValue254
  i55 := by kernel_rfl
  t59 := Tryz.underlying280
  a59 := Tryz.isAgg280
  z59 := Tryz.sizeOf280
  v59 := Tryz.zeroValue280
  i59 := by kernel_rfl
  t60 := Tryz.underlying259
  a60 := Tryz.isAgg259
  z60 := Tryz.sizeOf259
  v60 := Tryz.zeroValue259
  i60 := by kernel_rfl
  t61 := Tryz.underlying281
  a61 := Tryz.isAgg281
  z61 := Tryz.sizeOf281
  t65 := Tryz.underlying315
  a65 := Tryz.isAgg315
  z65 := Tryz.sizeOf315
  v65 := Tryz.zeroValue315
  i65 := by kernel_rfl
  t66 := Tryz.underlying316
  a66 := Tryz.isAgg316
  z66 := Tryz.sizeOf316
  v66 := Tryz.zeroValue316
  i66 := by kernel_rfl
  t67 := Tryz.underlying196
  a67 := Tryz.isAgg196
  z67 := Tryz.sizeOf196
  v67 := Tryz.zeroValue196
  i67 := by kernel_rfl
  g0 := by kernel_rfl
  m0 := by kernel_rfl
  g1 := by kernel_rfl
  m1 := by kernel_rfl
  g2 := by kernel_rfl
  m2 := by kernel_rfl
  g3 := by kernel_rfl
  m3 := by kernel_rfl
  g4 := by kernel_rfl
  m4 := by kernel_rfl }
open Go.RowKit in
/-- strconv.ParseUint(s, 10, 64), AT EVERY STRING THAT SPELLS A uint64 ('Lib.parseUintB 64 s.data.toList = .ok u'): u, AND NO ERROR. (LAID: no walk: one application.) -/
theorem Tryz.strconv_ParseUint_10_at64_ok (s : ByteArray) (hmax : s.size ≤ 9223372036854775806) (u : Nat) (h : Lib.parseUintB 64 s.data.toList = .ok u) (w : World) :
    Calls Tryz.prog 240 #[.string s, .int .i64 10, .int .i64 64] w fun e w' => e = .returned (.tuple #[.int .u64 u, .nilIface]) ∧ (w' = w ∨ w' = Lib.bytesWorld w 5 s) := Any.strconv_ParseUint_10_at64_ok Tryz.laysPu14 s hmax u h w
def Tryz.laysM288_ren : Go.Shelf.Ren := ⟨fun | 288 => 148 | 283 => 163 | 284 => 164 | 285 => 165 | 286 => 166 | 129 => 179 | 317 => 178 | 318 => 180 | 319 => 181 | 320 => 182 | 337 => 203 | 338 => 204 | n => n, fun | 37 => 128 | 53 => 22 | 3 => 3 | 4 => 4 | 9 => 9 | 171 => 252 | 0 => 0 | 173 => 254 | 212 => 280 | 51 => 259 | 5 => 5 | 20 => 20 | 213 => 281 | 46 => 258 | 232 => 315 | 233 => 316 | n => n, fun | 17 => 5 | 18 => 9 | 19 => 10 | n => n⟩
theorem Tryz.laysM288 : Go.Proofs.LaysM.n288 Tryz.prog Tryz.laysM288_ren := {
  mixed := by kernel_rfl
  f129 := Tryz.func179.trans (congrArg some (by kernel_rfl))
  f283 := Tryz.func163.trans (congrArg some (by kernel_rfl))
  f284 := Tryz.func164.trans (congrArg some (by kernel_rfl))
  f285 := Tryz.func165.trans (congrArg some (by kernel_rfl))
  f286 := Tryz.func166.trans (congrArg some (by kernel_rfl))
  f288 := Tryz.func148.trans (congrArg some (by kernel_rfl))
  f317 := Tryz.func178.trans (congrArg some (by kernel_rfl))
  f318 := Tryz.func180.trans (congrArg some (by kernel_rfl))
  f319 := Tryz.func181.trans (congrArg some (by kernel_rfl))
  f320 := Tryz.func182.trans (congrArg some (by kernel_rfl))
  f337 := Tryz.func203.trans (congrArg some (by kernel_rfl))
  f338 := Tryz.func204.trans (congrArg some (by kernel_rfl))
  t0 := Tryz.underlying0
  a0 := Tryz.isAgg0
  z0 := Tryz.sizeOf0
  v0 := Tryz.zeroValue0
  t3 := Tryz.underlying3
  a3 := Tryz.isAgg3
  z3 := Tryz.sizeOf3
  v3 := Tryz.zeroValue3
  t4 := Tryz.underlying4
  a4 := Tryz.isAgg4
  z4 := Tryz.sizeOf4
  v4 := Tryz.zeroValue4
  t5 := Tryz.underlying5
  a5 := Tryz.isAgg5
  z5 := Tryz.sizeOf5
  v5 := Tryz.zeroValue5
  t9 := Tryz.underlying9
  a9 := Tryz.isAgg9
  z9 := Tryz.sizeOf9
  v9 := Tryz.zeroValue9
  t20 := Tryz.underlying20
  a20 := Tryz.isAgg20
  z20 := Tryz.sizeOf20
  v20 := Tryz.zeroValue20
  t37 := Tryz.underlying128
  a37 := Tryz.isAgg128
  z37 := Tryz.sizeOf128
  v37 := Tryz.zeroValue128
  t46 := Tryz.underlying258
  a46 := Tryz.isAgg258
  z46 := Tryz.sizeOf258
  v46 := Tryz.zeroValue258
  t51 := Tryz.underlying259
  a51 := Tryz.isAgg259
  z51 := Tryz.sizeOf259
  v51 := Tryz.zeroValue259
  t53 := Tryz.underlying22
  a53 := Tryz.isAgg22
  z53 := Tryz.sizeOf22
  v53 := Tryz.zeroValue22
  t171 := Tryz.underlying252
  a171 := Tryz.isAgg252
  z171 := Tryz.sizeOf252
  v171 := Tryz.zeroValue252
  t173 := Tryz.underlying254
  a173 := Tryz.isAgg254
  z173 := Tryz.sizeOf254
  v173 := Tryz.zeroValue254
  t212 := Tryz.underlying280
  a212 := Tryz.isAgg280
  z212 := Tryz.sizeOf280
  v212 := Tryz.zeroValue280
  t213 := Tryz.underlying281
  a213 := Tryz.isAgg281
  z213 := Tryz.sizeOf281
  t232 := Tryz.underlying315
  a232 := Tryz.isAgg315
  z232 := Tryz.sizeOf315
  v232 := Tryz.zeroValue315
  t233 := Tryz.underlying316
  a233 := Tryz.isAgg316
  z233 := Tryz.sizeOf316
  v233 := Tryz.zeroValue316
  g17 := by kernel_rfl
  g18 := by kernel_rfl
  g19 := by kernel_rfl
  i0 := by kernel_rfl
  i3 := by kernel_rfl
  i4 := by kernel_rfl
  i5 := by kernel_rfl
  i9 := by kernel_rfl
  i20 := by kernel_rfl
  i37 := by kernel_rfl
  i46 := by kernel_rfl
  i51 := by kernel_rfl
  i53 := by kernel_rfl
  i171 := by kernel_rfl
  i173 := by kernel_rfl
  i212 := by kernel_rfl
  i232 := by kernel_rfl
  i233 := by kernel_rfl
  m17 := by kernel_rfl
  m18 := by kernel_rfl
  m19 := by kernel_rfl }
open Go.RowKit Go.Sort Go.Lib in
/-- internal/strconv.AppendUint(dst, i, 10): the two contracts as one. NO WALK. (LAID: no walk: one application.) -/
theorem Tryz.internal_strconv_AppendUint_10 (B n u : Nat) (hu64 : u < 18446744073709551616) (sv : Value) (xs : List Value) (w : World) (hown : w.ownsRow B 5 1 sv n xs) (hBw : B ≤ w.heap.size) (hlim : n + 20 ≤ 140737488355328) (htab : Lib.TabIs Tryz.prog w "internal/strconv.uint64pow10" .u64 Lib.pow10Tab) :
    Calls Tryz.prog 148 #[sv, .int .u64 u, .int .i64 10] w fun e w' => ∃ v', e = .returned v' ∧ w'.ownsRow B 5 1 v' (n + (Lib.decDigits u).length) (xs ++ Lib.byteCells (Lib.decDigits u)) ∧ Below B w w' ∧ Lib.OthersKept 5 none w w' := Any.internal_strconv_AppendUint_10 Tryz.laysM288 B n u hu64 sv xs w hown hBw hlim htab
def Tryz.laysM176_ren : Go.Shelf.Ren := ⟨fun | 176 => 126 | 249 => 147 | 288 => 148 | 283 => 163 | 284 => 164 | 285 => 165 | 286 => 166 | 129 => 179 | 317 => 178 | 318 => 180 | 319 => 181 | 320 => 182 | 337 => 203 | 338 => 204 | n => n, fun | 37 => 128 | 2 => 2 | 3 => 3 | 53 => 22 | 4 => 4 | 9 => 9 | 171 => 252 | 0 => 0 | 173 => 254 | 212 => 280 | 51 => 259 | 5 => 5 | 20 => 20 | 213 => 281 | 46 => 258 | 232 => 315 | 233 => 316 | n => n, fun | 17 => 5 | 18 => 9 | 19 => 10 | n => n⟩
theorem Tryz.laysM176 : Go.Proofs.LaysM.n176 Tryz.prog Tryz.laysM176_ren := {
  mixed := by kernel_rfl
  f129 := Tryz.func179.trans (congrArg some (by kernel_rfl))
  f176 := Tryz.func126.trans (congrArg some (by kernel_rfl))
  f249 := Tryz.func147.trans (congrArg some (by kernel_rfl))
  f283 := Tryz.func163.trans (congrArg some (by kernel_rfl))
  f284 := Tryz.func164.trans (congrArg some (by kernel_rfl))
  f285 := Tryz.func165.trans (congrArg some (by kernel_rfl))
  f286 := Tryz.func166.trans (congrArg some (by kernel_rfl))
  f288 := Tryz.func148.trans (congrArg some (by kernel_rfl))
  f317 := Tryz.func178.trans (congrArg some (by kernel_rfl))
  f318 := Tryz.func180.trans (congrArg some (by kernel_rfl))
  f319 := Tryz.func181.trans (congrArg some (by kernel_rfl))
  f320 := Tryz.func182.trans (congrArg some (by kernel_rfl))
  f337 := Tryz.func203.trans (congrArg some (by kernel_rfl))
  f338 := Tryz.func204.trans (congrArg some (by kernel_rfl))
  t0 := Tryz.underlying0
  a0 := Tryz.isAgg0
  z0 := Tryz.sizeOf0
  v0 := Tryz.zeroValue0
  t2 := Tryz.underlying2
  a2 := Tryz.isAgg2
  z2 := Tryz.sizeOf2
  v2 := Tryz.zeroValue2
  t3 := Tryz.underlying3
  a3 := Tryz.isAgg3
  z3 := Tryz.sizeOf3
  v3 := Tryz.zeroValue3
  t4 := Tryz.underlying4
  a4 := Tryz.isAgg4
  z4 := Tryz.sizeOf4
  v4 := Tryz.zeroValue4
  t5 := Tryz.underlying5
  a5 := Tryz.isAgg5
  z5 := Tryz.sizeOf5
  v5 := Tryz.zeroValue5
  t9 := Tryz.underlying9
  a9 := Tryz.isAgg9
  z9 := Tryz.sizeOf9
  v9 := Tryz.zeroValue9
  t20 := Tryz.underlying20
  a20 := Tryz.isAgg20
  z20 := Tryz.sizeOf20
  v20 := Tryz.zeroValue20
  t37 := Tryz.underlying128
  a37 := Tryz.isAgg128
  z37 := Tryz.sizeOf128
  v37 := Tryz.zeroValue128
  t46 := Tryz.underlying258
  a46 := Tryz.isAgg258
  z46 := Tryz.sizeOf258
  v46 := Tryz.zeroValue258
  t51 := Tryz.underlying259
  a51 := Tryz.isAgg259
  z51 := Tryz.sizeOf259
  v51 := Tryz.zeroValue259
  t53 := Tryz.underlying22
  a53 := Tryz.isAgg22
  z53 := Tryz.sizeOf22
  v53 := Tryz.zeroValue22
  t171 := Tryz.underlying252
  a171 := Tryz.isAgg252
  z171 := Tryz.sizeOf252
  v171 := Tryz.zeroValue252
  t173 := Tryz.underlying254
  a173 := Tryz.isAgg254
  z173 := Tryz.sizeOf254
  v173 := Tryz.zeroValue254
  t212 := Tryz.underlying280
  a212 := Tryz.isAgg280
  z212 := Tryz.sizeOf280
  v212 := Tryz.zeroValue280
  t213 := Tryz.underlying281
  a213 := Tryz.isAgg281
  z213 := Tryz.sizeOf281
  t232 := Tryz.underlying315
  a232 := Tryz.isAgg315
  z232 := Tryz.sizeOf315
  v232 := Tryz.zeroValue315
  t233 := Tryz.underlying316
  a233 := Tryz.isAgg316
  z233 := Tryz.sizeOf316
  v233 := Tryz.zeroValue316
  g17 := by kernel_rfl
  g18 := by kernel_rfl
  g19 := by kernel_rfl
  i0 := by kernel_rfl
  i2 := by kernel_rfl
  i3 := by kernel_rfl
  i4 := by kernel_rfl
  i5 := by kernel_rfl
  i9 := by kernel_rfl
  i20 := by kernel_rfl
  i37 := by kernel_rfl
  i46 := by kernel_rfl
  i51 := by kernel_rfl
  i53 := by kernel_rfl
  i171 := by kernel_rfl
  i173 := by kernel_rfl
  i212 := by kernel_rfl
  i232 := by kernel_rfl
  i233 := by kernel_rfl
  m17 := by kernel_rfl
  m18 := by kernel_rfl
  m19 := by kernel_rfl }
open Go.RowKit Go.Sort Go.Lib in
/-- strconv.AppendInt: "AppendInt appends the string form of the integer i, as generated by FormatInt, to dst and returns the extended buffer.": AT BASE 10: WHAT COMES BACK OWNS dst's CELLS AND, BEHIND THEM, i's DECIMAL NUMERAL ('Lib.itoa i': at most 20 bytes), for every int64. Below the call's own blocks nothing has turned. (LAID: no walk: one application.) -/
theorem Tryz.strconv_AppendInt_10 (B n : Nat) (i : Int) (h0 : -9223372036854775808 ≤ i) (h1 : i ≤ 9223372036854775807) (sv : Value) (xs : List Value) (w : World) (hown : w.ownsRow B 5 1 sv n xs) (hBw : B ≤ w.heap.size) (hlim : n + 21 ≤ 140737488355328) (htab : Lib.TabBelow Tryz.prog B w "internal/strconv.uint64pow10" .u64 Lib.pow10Tab) :
    Calls Tryz.prog 126 #[sv, .int .i64 i, .int .i64 10] w fun e w' => ∃ v', e = .returned v' ∧ w'.ownsRow B 5 1 v' (n + (Lib.itoa i).length) (xs ++ Lib.byteCells (Lib.itoa i)) ∧ Below B w w' ∧ Lib.OthersKept 5 none w w' := Any.strconv_AppendInt_10 Tryz.laysM176 B n i h0 h1 sv xs w hown hBw hlim htab
def Tryz.lays99_ren : Go.Shelf.Ren := ⟨fun | 99 => 238 | 206 => 247 | n => n, fun | 9 => 9 | 4 => 4 | 3 => 3 | n => n, fun | n => n⟩
theorem Tryz.lays99 : Go.Proofs.Lays.n99 Tryz.prog Tryz.lays99_ren := {
  mixed := by kernel_rfl
  f99 := Tryz.func238.trans (congrArg some (by kernel_rfl))
  f206 := Tryz.func247.trans (congrArg some (by kernel_rfl))
  t3 := Tryz.underlying3
  a3 := Tryz.isAgg3
  z3 := Tryz.sizeOf3
  v3 := Tryz.zeroValue3
  t4 := Tryz.underlying4
  a4 := Tryz.isAgg4
  z4 := Tryz.sizeOf4
  v4 := Tryz.zeroValue4
  t9 := Tryz.underlying9
  a9 := Tryz.isAgg9
  z9 := Tryz.sizeOf9
  v9 := Tryz.zeroValue9 }
open Go.RowKit Go.Lib in
/-- strings.HasPrefix: "HasPrefix reports whether the string s begins with prefix.": IT RETURNS 'Lib.hasPrefix s prefix'; the world is as it was. (LAID: no walk: one application.) -/
theorem Tryz.strings_HasPrefix (s p : ByteArray) (w : World) :
    Calls Tryz.prog 238 #[.string s, .string p] w fun e w' => e = .returned (.bool (Lib.hasPrefix s.data.toList p.data.toList)) ∧ w' = w := Any.strings_HasPrefix Tryz.lays99 s p w
def Tryz.lays101_ren : Go.Shelf.Ren := ⟨fun | 101 => 239 | 208 => 248 | 206 => 247 | n => n, fun | 9 => 9 | 4 => 4 | 3 => 3 | n => n, fun | n => n⟩
theorem Tryz.lays101 : Go.Proofs.Lays.n101 Tryz.prog Tryz.lays101_ren := {
  mixed := by kernel_rfl
  f101 := Tryz.func239.trans (congrArg some (by kernel_rfl))
  f206 := Tryz.func247.trans (congrArg some (by kernel_rfl))
  f208 := Tryz.func248.trans (congrArg some (by kernel_rfl))
  t3 := Tryz.underlying3
  a3 := Tryz.isAgg3
  z3 := Tryz.sizeOf3
  v3 := Tryz.zeroValue3
  t4 := Tryz.underlying4
  a4 := Tryz.isAgg4
  z4 := Tryz.sizeOf4
  v4 := Tryz.zeroValue4
  t9 := Tryz.underlying9
  a9 := Tryz.isAgg9
  z9 := Tryz.sizeOf9
  v9 := Tryz.zeroValue9 }
open Go.RowKit Go.Lib in
/-- strings.TrimPrefix: "TrimPrefix returns s without the provided leading prefix string. If s doesn't start with prefix, s is returned unchanged.": IT RETURNS 'Lib.trimPrefix s prefix'; the world is as it was. (LAID: no walk: one application.) -/
theorem Tryz.strings_TrimPrefix (s p : ByteArray) (w : World) :
    Calls Tryz.prog 239 #[.string s, .string p] w fun e w' => e = .returned (.string ⟨(Lib.trimPrefix s.data.toList p.data.toList).toArray⟩) ∧ w' = w := Any.strings_TrimPrefix Tryz.lays101 s p w
open Go.RowKit in
theorem Tryz.strings_TrimSpace_any (s : ByteArray) (w : World) (hs : s.size ≤ 9223372036854775807) (htab : Lib.TabIs Tryz.prog w "strings.asciiSpace" .u8 Lib.asciiSpaceTab) (hU8 : Lib.Utf8Tabs 7 8 w) (hWS : Lib.WhiteTab 3 w) :
    Calls Tryz.prog 138 #[.string s] w fun e w' => e = .returned (.string ⟨(Lib.trimSpaceD s.data.toList).toArray⟩) ∧ Below w.heap.size w w' := Any.strings_TrimSpace_any Tryz.lays163 Tryz.Space_Extra_163 s w hs htab hU8 hWS
def Tryz.laysNm216_ren : Go.Shelf.Ren := ⟨fun | 16 => 124 | n => n, fun | 24 => 25 | 9 => 9 | 4 => 4 | n => n, fun | n => n⟩
theorem Tryz.laysNm216 : Go.Proofs.Lays2.n16 Tryz.prog Tryz.laysNm216_ren := {
  mixed := by kernel_rfl
  f16 := Tryz.func124.trans (congrArg some (by kernel_rfl))
  t4 := Tryz.underlying4
  a4 := Tryz.isAgg4
  z4 := Tryz.sizeOf4
  v4 := Tryz.zeroValue4
  t9 := Tryz.underlying9
  a9 := Tryz.isAgg9
  z9 := Tryz.sizeOf9
  v9 := Tryz.zeroValue9
  t24 := Tryz.underlying25
  a24 := Tryz.isAgg25
  z24 := Tryz.sizeOf25
  v24 := Tryz.zeroValue25
  i9 := by kernel_rfl }
open Go.RowKit Go.Lib in
/-- slices.Clone at []string: "Clone returns a copy of the slice. The elements are copied using assignment, so this is a shallow clone. The result may have additional unused capacity. The result preserves the nilness of s.": OF A SLICE THAT IS NOT nil IT RETURNS A SLICE THAT IS NOT nil, OF THE SAME ELEMENTS, IN MEMORY OF THE CALL's OWN: in the how-to's words (6f): 'w'.ownsRow B e 1 v' n cells': v' begins at the head of a row among the blocks from B on (B: the heap's size at the call), not frozen, whose first cells are the elements · 'Below B w w'': below B all is as it was. The capacity is whatever the run-time gives. 'zs': what the cells behind the slice's address hold; 'zs.take n': its elements. (LAID: no walk: one application.) -/
theorem Tryz.slices_Clone_string (b off n c : Nat) (zs : List ByteArray) (w : World) (hz : n ≤ zs.length) (hbig : n * 16 ≤ 140737488355328) (hc : ∀ j, j < zs.length → w.cell? ⟨b, off + j, none⟩ = some (.string (zs.getD j ByteArray.empty))) :
    Calls Tryz.prog 124 #[.slice (some ⟨b, off, none⟩) n c] w fun e w' => ∃ v', e = .returned v' ∧ w'.ownsRow w.heap.size 9 1 v' n ((zs.take n).map (Value.string)) ∧ v' ≠ .slice none 0 0 ∧ Below w.heap.size w w' := Any.slices_Clone_string Tryz.laysNm216 b off n c zs w hz hbig hc
open Go.RowKit Go.Lib in
/-- The same at nil: nil comes back; the world is as it was. (LAID: no walk: one application.) -/
theorem Tryz.slices_Clone_string_nil (n c : Nat) (w : World) :
    Calls Tryz.prog 124 #[.slice none n c] w fun e w' => e = .returned (.slice none 0 0) ∧ w' = w := Any.slices_Clone_string_nil Tryz.laysNm216 n c w
open Go.RowKit Go.Lib in
/-- The same at a slice of length 0 that is not nil, WHATEVER ITS ADDRESS (no cell is asked for): a slice that is not nil and owns nothing comes back. (LAID: no walk: one application.) -/
theorem Tryz.slices_Clone_string_zero (a : Addr) (c : Nat) (w : World) :
    Calls Tryz.prog 124 #[.slice (some a) 0 c] w fun e w' => ∃ v', e = .returned v' ∧ w'.ownsRow w.heap.size 9 1 v' 0 [] ∧ v' ≠ .slice none 0 0 ∧ Below w.heap.size w w' := Any.slices_Clone_string_zero Tryz.laysNm216 a c w
def Tryz.laysSlE041_f75_ren : Go.Shelf.Ren := ⟨fun | 41 => 75 | n => n, fun | 22 => 75 | 23 => 2 | 4 => 4 | n => n, fun | n => n⟩
theorem Tryz.laysSlE041_f75 : Go.Proofs.SlLaysE0.n41 Tryz.prog Tryz.laysSlE041_f75_ren := {
  mixed := by kernel_rfl
  f41 := ⟨Tryz.f75.name, by decide, Tryz.func75.trans (congrArg some (by kernel_rfl))⟩
  t4 := Tryz.underlying4
  a4 := Tryz.isAgg4
  z4 := Tryz.sizeOf4
  v4 := Tryz.zeroValue4
  t22 := Tryz.underlying75
  a22 := Tryz.isAgg75
  z22 := Tryz.sizeOf75
  v22 := Tryz.zeroValue75 }
open Go.RowKit Go.Lib in
/-- slices.Clone: "Clone returns a copy of the slice. The elements are copied using assignment, so this is a shallow clone. The result may have additional unused capacity. The result preserves the nilness of s.": OF A SLICE THAT IS NOT nil IT RETURNS A SLICE THAT IS NOT nil, OF THE SAME CELLS, IN MEMORY OF THE CALL's OWN ('ownsRow': the how-to's 6f); below the heap's size at the call all is as it was. (LAID AT THE INSTANCE 'slices.Clone[[]int64,int64]': no walk: one application.) -/
theorem Tryz.slices_Clone_f75 (i0 : TypeInfo) (z : Value) (size bytes : Nat) (hi : Tryz.prog.info? 2 = some i0) (hz0 : i0.zero = some z) (hz1 : i0.size = size) (hz2 : i0.bytes = bytes) (hzs : z.cells.size = size) (hsz : 0 < size) (z23 : ∀ w, (Go.sizeOf 2).run Tryz.prog w = .ok size w) (b off n c : Nat) (news : List Value) (w : World) (hl : news.length = n * size) (hn : n ≤ maxLen) (hbig : n * bytes ≤ 140737488355328) (hc : ∀ j u, news[j]? = some u → w.cell? ⟨b, off + j, none⟩ = some u) (h1 : ∀ u ∈ news, u.oneCell' = true) :
    Calls Tryz.prog 75 #[.slice (some ⟨b, off, none⟩) n c] w fun e w' => ∃ v', e = .returned v' ∧ w'.ownsRow w.heap.size 2 size v' n news ∧ v' ≠ .slice none 0 0 ∧ Below w.heap.size w w' := AnyE.slices_Clone Tryz.laysSlE041_f75 i0 z size bytes hi hz0 hz1 hz2 hzs hsz z23 b off n c news w hl hn hbig hc h1
def Tryz.laysSlE041_f124_ren : Go.Shelf.Ren := ⟨fun | 41 => 124 | n => n, fun | 22 => 25 | 23 => 9 | 4 => 4 | n => n, fun | n => n⟩
theorem Tryz.laysSlE041_f124 : Go.Proofs.SlLaysE0.n41 Tryz.prog Tryz.laysSlE041_f124_ren := {
  mixed := by kernel_rfl
  f41 := ⟨Tryz.f124.name, by decide, Tryz.func124.trans (congrArg some (by kernel_rfl))⟩
  t4 := Tryz.underlying4
  a4 := Tryz.isAgg4
  z4 := Tryz.sizeOf4
  v4 := Tryz.zeroValue4
  t22 := Tryz.underlying25
  a22 := Tryz.isAgg25
  z22 := Tryz.sizeOf25
  v22 := Tryz.zeroValue25 }
open Go.RowKit Go.Lib in
/-- slices.Clone: "Clone returns a copy of the slice. The elements are copied using assignment, so this is a shallow clone. The result may have additional unused capacity. The result preserves the nilness of s.": OF A SLICE THAT IS NOT nil IT RETURNS A SLICE THAT IS NOT nil, OF THE SAME CELLS, IN MEMORY OF THE CALL's OWN ('ownsRow': the how-to's 6f); below the heap's size at the call all is as it was. (LAID AT THE INSTANCE 'slices.Clone[[]string,string]': no walk: one application.) -/
theorem Tryz.slices_Clone_f124 (i0 : TypeInfo) (z : Value) (size bytes : Nat) (hi : Tryz.prog.info? 9 = some i0) (hz0 : i0.zero = some z) (hz1 : i0.size = size) (hz2 : i0.bytes = bytes) (hzs : z.cells.size = size) (hsz : 0 < size) (z23 : ∀ w, (Go.sizeOf 9).run Tryz.prog w = .ok size w) (b off n c : Nat) (news : List Value) (w : World) (hl : news.length = n * size) (hn : n ≤ maxLen) (hbig : n * bytes ≤ 140737488355328) (hc : ∀ j u, news[j]? = some u → w.cell? ⟨b, off + j, none⟩ = some u) (h1 : ∀ u ∈ news, u.oneCell' = true) :
    Calls Tryz.prog 124 #[.slice (some ⟨b, off, none⟩) n c] w fun e w' => ∃ v', e = .returned v' ∧ w'.ownsRow w.heap.size 9 size v' n news ∧ v' ≠ .slice none 0 0 ∧ Below w.heap.size w w' := AnyE.slices_Clone Tryz.laysSlE041_f124 i0 z size bytes hi hz0 hz1 hz2 hzs hsz z23 b off n c news w hl hn hbig hc h1
open Go.RowKit Go.Lib in
/-- The same at nil: nil comes back; the world is as it was; nothing is asked of the element's type. (LAID AT THE INSTANCE 'slices.Clone[[]int64,int64]': no walk: one application.) -/
theorem Tryz.slices_Clone_nil_f75 (n c : Nat) (w : World) :
    Calls Tryz.prog 75 #[.slice none n c] w fun e w' => e = .returned (.slice none 0 0) ∧ w' = w := AnyE.slices_Clone_nil Tryz.laysSlE041_f75 n c w
open Go.RowKit Go.Lib in
/-- The same at nil: nil comes back; the world is as it was; nothing is asked of the element's type. (LAID AT THE INSTANCE 'slices.Clone[[]string,string]': no walk: one application.) -/
theorem Tryz.slices_Clone_nil_f124 (n c : Nat) (w : World) :
    Calls Tryz.prog 124 #[.slice none n c] w fun e w' => e = .returned (.slice none 0 0) ∧ w' = w := AnyE.slices_Clone_nil Tryz.laysSlE041_f124 n c w
end Go.Proofs
