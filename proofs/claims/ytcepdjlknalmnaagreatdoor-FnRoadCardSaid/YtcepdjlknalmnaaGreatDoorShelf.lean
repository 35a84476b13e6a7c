/-
 DERIVED: THE SHELF's CONTRACTS AT THIS DUMP, IN PLAIN WORDS (tools/lay-plain.mjs out of 'TryzShelf.lean', which tools/lay-shelf.mjs wrote): THE SAME DECLARATIONS UNDER THE SAME NAMES: 'import', 'namespace', 'open', 'def', 'theorem' AND NOTHING ELSE: no command of the shelf's: FOR A HAND-IN. Each laying: the table of numbers ('.._ren') and one theorem, a field a fact of the dump's own or the kernel's comparison; each contract: ONE APPLICATION.
-/
import Derived.Shelf.Strings.TrimSpace
import Derived.Shelf.Small.Utf8
import Derived.Shelf.Small.Bits
import Derived.Shelf.Strconv.Atoi
import Derived.Shelf.Strconv.Itoa0
import Derived.Shelf.Strconv.Itoa1
import Derived.Shelf.LaysM
import Derived.Shelf.Strconv.Itoa2
import Derived.Shelf.Strconv.Itoa3
import Derived.Shelf.Strconv.AtoiErrFast
import Derived.Shelf.Strconv.ParseIntEmpty
import Derived.Shelf.Strconv.AtoiFail
import Derived.Shelf.Strconv.Clone
import Derived.Shelf.Strconv.SyntaxError
import Derived.Shelf.LaysC
import Derived.Shelf.Strconv.ToError
import Derived.Shelf.Strconv.Lower
import Derived.Shelf.Strconv.ParseUint10
import Derived.Shelf.Strconv.ParseUint10Empty
import Derived.Shelf.Strconv.ParseUint10Any
import Derived.Shelf.Strconv.ParseInt10
import Derived.Shelf.Strconv.AtoiLong
import Derived.Shelf.Strconv.AtoiInnerAll
import Derived.Shelf.Strconv.RangeError
import Derived.Shelf.Strconv.ToErrorRange
import Derived.Shelf.Strconv.AtoiAll
import Derived.Shelf.Strconv.ErrVarAll
import Derived.Shelf.Strconv.ParseUintEmpty
import Derived.Shelf.Strconv.ParseUint10b64
import Derived.Shelf.Strconv.ParseUint10b32
import Derived.Shelf.Strconv.ParseUint10b16
import Derived.Shelf.Strconv.ParseUint10b8
import Derived.Shelf.Strconv.ParseUint10At
import Derived.Shelf.Strconv.ParseInt10At64
import Derived.Shelf.Strconv.ParseInt10At32
import Derived.Shelf.Strconv.ParseInt10At16
import Derived.Shelf.Strconv.ParseInt10At8
import Derived.Shelf.Strconv.ParseInt10All
import Derived.Shelf.Strconv.ParseIntPublic10
import Derived.Shelf.Strconv.ErrVarParseInt
import Derived.Ground.MpProg
import Derived.Shelf.Pu.ParseUintPublic10
import Derived.Shelf.Pu.ErrVarParseUint
import Derived.Shelf.Strconv.AppendUint10
import Derived.Shelf.Strconv.AppendInt10
import Derived.Shelf.Strconv.AppendIntPublic10
import Derived.Shelf.Strings.Prefix
import Derived.Shelf.Unicode.Latin
import Derived.Shelf.Unicode.Decode
import Derived.Shelf.Unicode.DecodeSlow
import Derived.Shelf.Unicode.DecodeAny
import Derived.Shelf.Unicode.Is16White
import Derived.Shelf.Unicode.IsSpaceAny
import Derived.Shelf.Unicode.DecodeLast
import Derived.Shelf.Strings.TrimSpaceAny
import Derived.Shelf.Unicode.Is16Any
import Derived.Shelf.Unicode.Is32Any
import Derived.Shelf.Unicode.ExclAny
import Derived.Ground.Names2Prog
import Derived.Shelf.Slices.Clone
import Derived.Ground.SlgnProg
import Derived.Shelf.SlicesE.Clone
import Derived.Test.YtcepdjlknalmnaaGreatDoorProg
namespace Go.Proofs
open Go.Shelf
open Go.RowKit in
def Tryz.laysC172_ren : Go.Shelf.Ren := ⟨fun | 172 => 257 | 244 => 269 | 245 => 250 | 247 => 279 | 279 => 261 | 280 => 262 | 281 => 263 | 282 => 264 | 287 => 249 | 316 => 276 | 171 => 278 | 205 => 277 | 321 => 259 | 322 => 260 | 243 => 284 | 246 => 288 | 283 => 163 | 284 => 164 | 285 => 165 | 286 => 166 | 129 => 179 | 317 => 178 | 318 => 180 | 319 => 181 | 320 => 182 | 337 => 203 | 338 => 204 | n => n, fun | 9 => 9 | 3 => 3 | 75 => 118 | 76 => 336 | 4 => 4 | 5 => 5 | 167 => 338 | 37 => 128 | 0 => 0 | 85 => 330 | 2 => 2 | 168 => 340 | 53 => 22 | 175 => 237 | 46 => 258 | 210 => 346 | 127 => 347 | 145 => 350 | 143 => 348 | 21 => 21 | 171 => 252 | 173 => 254 | 212 => 280 | 51 => 259 | 20 => 20 | 213 => 281 | 232 => 315 | 233 => 316 | 80 => 196 | n => n, fun | 15 => 13 | 16 => 14 | 17 => 5 | 18 => 9 | 19 => 10 | n => n⟩
theorem Tryz.laysC172 : Go.Proofs.LaysC.n172 prog Tryz.laysC172_ren := {
 mixed := by kernel_rfl
 f129 := func179.trans (congrArg some (by kernel_rfl))
 f171 := func278.trans (congrArg some (by kernel_rfl))
 f172 := func257.trans (congrArg some (by kernel_rfl))
 f205 := func277.trans (congrArg some (by kernel_rfl))
 f243 := func284.trans (congrArg some (by kernel_rfl))
 f244 := func269.trans (congrArg some (by kernel_rfl))
 f245 := func250.trans (congrArg some (by kernel_rfl))
 f246 := func288.trans (congrArg some (by kernel_rfl))
 f247 := func279.trans (congrArg some (by kernel_rfl))
 f279 := func261.trans (congrArg some (by kernel_rfl))
 f280 := func262.trans (congrArg some (by kernel_rfl))
 f281 := func263.trans (congrArg some (by kernel_rfl))
 f282 := func264.trans (congrArg some (by kernel_rfl))
 f283 := func163.trans (congrArg some (by kernel_rfl))
 f284 := func164.trans (congrArg some (by kernel_rfl))
 f285 := func165.trans (congrArg some (by kernel_rfl))
 f286 := func166.trans (congrArg some (by kernel_rfl))
 f287 := func249.trans (congrArg some (by kernel_rfl))
 f316 := func276.trans (congrArg some (by kernel_rfl))
 f317 := func178.trans (congrArg some (by kernel_rfl))
 f318 := func180.trans (congrArg some (by kernel_rfl))
 f319 := func181.trans (congrArg some (by kernel_rfl))
 f320 := func182.trans (congrArg some (by kernel_rfl))
 f321 := func259.trans (congrArg some (by kernel_rfl))
 f322 := func260.trans (congrArg some (by kernel_rfl))
 f337 := func203.trans (congrArg some (by kernel_rfl))
 f338 := func204.trans (congrArg some (by kernel_rfl))
 t0 := underlying0
 a0 := Tryz.isAgg0
 z0 := Tryz.sizeOf0
 v0 := Tryz.zeroValue0
 t2 := underlying2
 a2 := Tryz.isAgg2
 z2 := Tryz.sizeOf2
 v2 := Tryz.zeroValue2
 t3 := underlying3
 a3 := Tryz.isAgg3
 z3 := Tryz.sizeOf3
 v3 := Tryz.zeroValue3
 t4 := underlying4
 a4 := Tryz.isAgg4
 z4 := Tryz.sizeOf4
 v4 := Tryz.zeroValue4
 t5 := underlying5
 a5 := Tryz.isAgg5
 z5 := Tryz.sizeOf5
 v5 := Tryz.zeroValue5
 t9 := underlying9
 a9 := Tryz.isAgg9
 z9 := Tryz.sizeOf9
 v9 := Tryz.zeroValue9
 t20 := underlying20
 a20 := Tryz.isAgg20
 z20 := Tryz.sizeOf20
 v20 := Tryz.zeroValue20
 t21 := underlying21
 a21 := Tryz.isAgg21
 z21 := Tryz.sizeOf21
 v21 := Tryz.zeroValue21
 t37 := underlying128
 a37 := Tryz.isAgg128
 z37 := Tryz.sizeOf128
 v37 := Tryz.zeroValue128
 t46 := underlying258
 a46 := Tryz.isAgg258
 z46 := Tryz.sizeOf258
 v46 := Tryz.zeroValue258
 t51 := underlying259
 a51 := Tryz.isAgg259
 z51 := Tryz.sizeOf259
 v51 := Tryz.zeroValue259
 t53 := underlying22
 a53 := Tryz.isAgg22
 z53 := Tryz.sizeOf22
 v53 := Tryz.zeroValue22
 t75 := underlying118
 a75 := Tryz.isAgg118
 z75 := Tryz.sizeOf118
 v75 := Tryz.zeroValue118
 t76 := underlying336
 a76 := Tryz.isAgg336
 z76 := Tryz.sizeOf336
 v76 := Tryz.zeroValue336
 t85 := underlying330
 a85 := Tryz.isAgg330
 z85 := Tryz.sizeOf330
 v85 := Tryz.zeroValue330
 t127 := underlying347
 a127 := Tryz.isAgg347
 z127 := Tryz.sizeOf347
 v127 := Tryz.zeroValue347
 t143 := underlying348
 a143 := Tryz.isAgg348
 z143 := Tryz.sizeOf348
 v143 := Tryz.zeroValue348
 t145 := underlying350
 a145 := Tryz.isAgg350
 z145 := Tryz.sizeOf350
 v145 := Tryz.zeroValue350
 t167 := underlying338
 a167 := Tryz.isAgg338
 z167 := Tryz.sizeOf338
 v167 := Tryz.zeroValue338
 t168 := underlying340
 a168 := Tryz.isAgg340
 z168 := Tryz.sizeOf340
 v168 := Tryz.zeroValue340
 t171 := underlying252
 a171 := Tryz.isAgg252
 z171 := Tryz.sizeOf252
 v171 := Tryz.zeroValue252
 t173 := underlying254
 a173 := Tryz.isAgg254
 z173 := Tryz.sizeOf254
 v173 := Tryz.zeroValue254
 t175 := underlying237
 a175 := Tryz.isAgg237
 z175 := Tryz.sizeOf237
 v175 := Tryz.zeroValue237
 t210 := underlying346
 a210 := Tryz.isAgg346
 z210 := Tryz.sizeOf346
 v210 := Tryz.zeroValue346
 t212 := underlying280
 a212 := Tryz.isAgg280
 z212 := Tryz.sizeOf280
 v212 := Tryz.zeroValue280
 t213 := underlying281
 a213 := Tryz.isAgg281
 z213 := Tryz.sizeOf281
 t232 := underlying315
 a232 := Tryz.isAgg315
 z232 := Tryz.sizeOf315
 v232 := Tryz.zeroValue315
 t233 := underlying316
 a233 := Tryz.isAgg316
 z233 := Tryz.sizeOf316
 v233 := Tryz.zeroValue316
 g15 := by kernel_rfl
 g16 := by kernel_rfl
 g17 := by kernel_rfl
 g18 := by kernel_rfl
 g19 := by kernel_rfl
 t80 := underlying196
 a80 := Tryz.isAgg196
 z80 := Tryz.sizeOf196
 v80 := Tryz.zeroValue196
 i0 := by kernel_rfl
 i2 := by kernel_rfl
 i3 := by kernel_rfl
 i4 := by kernel_rfl
 i5 := by kernel_rfl
 i9 := by kernel_rfl
 i20 := by kernel_rfl
 i21 := by kernel_rfl
 i37 := by kernel_rfl
 i46 := by kernel_rfl
 i51 := by kernel_rfl
 i53 := by kernel_rfl
 i75 := by kernel_rfl
 i76 := by kernel_rfl
 i80 := by kernel_rfl
 i85 := by kernel_rfl
 i127 := by kernel_rfl
 i143 := by kernel_rfl
 i145 := by kernel_rfl
 i167 := by kernel_rfl
 i168 := by kernel_rfl
 i171 := by kernel_rfl
 i173 := by kernel_rfl
 i175 := by kernel_rfl
 i210 := by kernel_rfl
 i212 := by kernel_rfl
 i232 := by kernel_rfl
 i233 := by kernel_rfl
 m15 := by kernel_rfl
 m16 := by kernel_rfl
 m17 := by kernel_rfl
 m18 := by kernel_rfl
 m19 := by kernel_rfl
 c0 := by kernel_rfl
 c2 := by kernel_rfl
 c3 := by kernel_rfl
 c4 := by kernel_rfl
 c5 := by kernel_rfl
 c9 := by kernel_rfl
 c20 := by kernel_rfl
 c21 := by kernel_rfl
 c37 := by kernel_rfl
 c46 := by kernel_rfl
 c51 := by kernel_rfl
 c53 := by kernel_rfl
 c75 := by kernel_rfl
 c76 := by kernel_rfl
 c80 := by kernel_rfl
 c85 := by kernel_rfl
 c127 := by kernel_rfl
 c143 := by kernel_rfl
 c145 := by kernel_rfl
 c167 := by kernel_rfl
 c168 := by kernel_rfl
 c171 := by kernel_rfl
 c173 := by kernel_rfl
 c175 := by kernel_rfl
 c210 := by kernel_rfl
 c212 := by kernel_rfl
 c213 := by kernel_rfl
 c232 := by kernel_rfl
 c233 := by kernel_rfl }
open Go.RowKit in
theorem Tryz.strconv_Atoi_ok (s : ByteArray) (hmax : s.size <= 9223372036854775806) (v : Int) (h : Lib.atoiAll s.data.toList = .ok v) (w : World) :
 Calls prog 257 #[.string s] w fun e w' => e = .returned (.tuple #[.int .i64 v, .nilIface]) /\ (w' = w ∨ ∃ t, w' = Lib.bytesWorld w 5 t) := Any.strconv_Atoi_ok Tryz.laysC172 s hmax v h w
def Tryz.laysC174_ren : Go.Shelf.Ren := ⟨fun | 174 => 266 | 247 => 279 | 245 => 250 | 287 => 249 | 279 => 261 | 280 => 262 | 281 => 263 | 282 => 264 | 321 => 259 | 322 => 260 | 316 => 276 | 171 => 278 | 205 => 277 | 243 => 284 | 246 => 288 | 283 => 163 | 284 => 164 | 285 => 165 | 286 => 166 | 129 => 179 | 317 => 178 | 318 => 180 | 319 => 181 | 320 => 182 | 337 => 203 | 338 => 204 | n => n, fun | 9 => 9 | 3 => 3 | 2 => 2 | 75 => 118 | 85 => 330 | 4 => 4 | 167 => 338 | 5 => 5 | 53 => 22 | 175 => 237 | 46 => 258 | 168 => 340 | 37 => 128 | 0 => 0 | 210 => 346 | 21 => 21 | 127 => 347 | 145 => 350 | 143 => 348 | 171 => 252 | 173 => 254 | 212 => 280 | 51 => 259 | 20 => 20 | 213 => 281 | 232 => 315 | 233 => 316 | 80 => 196 | n => n, fun | 15 => 13 | 16 => 14 | 17 => 5 | 18 => 9 | 19 => 10 | n => n⟩
theorem Tryz.laysC174 : Go.Proofs.LaysC.n174 prog Tryz.laysC174_ren := {
 mixed := by kernel_rfl
 f129 := func179.trans (congrArg some (by kernel_rfl))
 f171 := func278.trans (congrArg some (by kernel_rfl))
 f174 := func266.trans (congrArg some (by kernel_rfl))
 f205 := func277.trans (congrArg some (by kernel_rfl))
 f243 := func284.trans (congrArg some (by kernel_rfl))
 f245 := func250.trans (congrArg some (by kernel_rfl))
 f246 := func288.trans (congrArg some (by kernel_rfl))
 f247 := func279.trans (congrArg some (by kernel_rfl))
 f279 := func261.trans (congrArg some (by kernel_rfl))
 f280 := func262.trans (congrArg some (by kernel_rfl))
 f281 := func263.trans (congrArg some (by kernel_rfl))
 f282 := func264.trans (congrArg some (by kernel_rfl))
 f283 := func163.trans (congrArg some (by kernel_rfl))
 f284 := func164.trans (congrArg some (by kernel_rfl))
 f285 := func165.trans (congrArg some (by kernel_rfl))
 f286 := func166.trans (congrArg some (by kernel_rfl))
 f287 := func249.trans (congrArg some (by kernel_rfl))
 f316 := func276.trans (congrArg some (by kernel_rfl))
 f317 := func178.trans (congrArg some (by kernel_rfl))
 f318 := func180.trans (congrArg some (by kernel_rfl))
 f319 := func181.trans (congrArg some (by kernel_rfl))
 f320 := func182.trans (congrArg some (by kernel_rfl))
 f321 := func259.trans (congrArg some (by kernel_rfl))
 f322 := func260.trans (congrArg some (by kernel_rfl))
 f337 := func203.trans (congrArg some (by kernel_rfl))
 f338 := func204.trans (congrArg some (by kernel_rfl))
 t0 := underlying0
 a0 := Tryz.isAgg0
 z0 := Tryz.sizeOf0
 v0 := Tryz.zeroValue0
 t2 := underlying2
 a2 := Tryz.isAgg2
 z2 := Tryz.sizeOf2
 v2 := Tryz.zeroValue2
 t3 := underlying3
 a3 := Tryz.isAgg3
 z3 := Tryz.sizeOf3
 v3 := Tryz.zeroValue3
 t4 := underlying4
 a4 := Tryz.isAgg4
 z4 := Tryz.sizeOf4
 v4 := Tryz.zeroValue4
 t5 := underlying5
 a5 := Tryz.isAgg5
 z5 := Tryz.sizeOf5
 v5 := Tryz.zeroValue5
 t9 := underlying9
 a9 := Tryz.isAgg9
 z9 := Tryz.sizeOf9
 v9 := Tryz.zeroValue9
 t20 := underlying20
 a20 := Tryz.isAgg20
 z20 := Tryz.sizeOf20
 v20 := Tryz.zeroValue20
 t21 := underlying21
 a21 := Tryz.isAgg21
 z21 := Tryz.sizeOf21
 v21 := Tryz.zeroValue21
 t37 := underlying128
 a37 := Tryz.isAgg128
 z37 := Tryz.sizeOf128
 v37 := Tryz.zeroValue128
 t46 := underlying258
 a46 := Tryz.isAgg258
 z46 := Tryz.sizeOf258
 v46 := Tryz.zeroValue258
 t51 := underlying259
 a51 := Tryz.isAgg259
 z51 := Tryz.sizeOf259
 v51 := Tryz.zeroValue259
 t53 := underlying22
 a53 := Tryz.isAgg22
 z53 := Tryz.sizeOf22
 v53 := Tryz.zeroValue22
 t75 := underlying118
 a75 := Tryz.isAgg118
 z75 := Tryz.sizeOf118
 v75 := Tryz.zeroValue118
 t85 := underlying330
 a85 := Tryz.isAgg330
 z85 := Tryz.sizeOf330
 v85 := Tryz.zeroValue330
 t127 := underlying347
 a127 := Tryz.isAgg347
 z127 := Tryz.sizeOf347
 v127 := Tryz.zeroValue347
 t143 := underlying348
 a143 := Tryz.isAgg348
 z143 := Tryz.sizeOf348
 v143 := Tryz.zeroValue348
 t145 := underlying350
 a145 := Tryz.isAgg350
 z145 := Tryz.sizeOf350
 v145 := Tryz.zeroValue350
 t167 := underlying338
 a167 := Tryz.isAgg338
 z167 := Tryz.sizeOf338
 v167 := Tryz.zeroValue338
 t168 := underlying340
 a168 := Tryz.isAgg340
 z168 := Tryz.sizeOf340
 v168 := Tryz.zeroValue340
 t171 := underlying252
 a171 := Tryz.isAgg252
 z171 := Tryz.sizeOf252
 v171 := Tryz.zeroValue252
 t173 := underlying254
 a173 := Tryz.isAgg254
 z173 := Tryz.sizeOf254
 v173 := Tryz.zeroValue254
 t175 := underlying237
 a175 := Tryz.isAgg237
 z175 := Tryz.sizeOf237
 v175 := Tryz.zeroValue237
 t210 := underlying346
 a210 := Tryz.isAgg346
 z210 := Tryz.sizeOf346
 v210 := Tryz.zeroValue346
 t212 := underlying280
 a212 := Tryz.isAgg280
 z212 := Tryz.sizeOf280
 v212 := Tryz.zeroValue280
 t213 := underlying281
 a213 := Tryz.isAgg281
 z213 := Tryz.sizeOf281
 t232 := underlying315
 a232 := Tryz.isAgg315
 z232 := Tryz.sizeOf315
 v232 := Tryz.zeroValue315
 t233 := underlying316
 a233 := Tryz.isAgg316
 z233 := Tryz.sizeOf316
 v233 := Tryz.zeroValue316
 g15 := by kernel_rfl
 g16 := by kernel_rfl
 g17 := by kernel_rfl
 g18 := by kernel_rfl
 g19 := by kernel_rfl
 t80 := underlying196
 a80 := Tryz.isAgg196
 z80 := Tryz.sizeOf196
 v80 := Tryz.zeroValue196
 i0 := by kernel_rfl
 i2 := by kernel_rfl
 i3 := by kernel_rfl
 i4 := by kernel_rfl
 i5 := by kernel_rfl
 i9 := by kernel_rfl
 i20 := by kernel_rfl
 i21 := by kernel_rfl
 i37 := by kernel_rfl
 i46 := by kernel_rfl
 i51 := by kernel_rfl
 i53 := by kernel_rfl
 i75 := by kernel_rfl
 i80 := by kernel_rfl
 i85 := by kernel_rfl
 i127 := by kernel_rfl
 i143 := by kernel_rfl
 i145 := by kernel_rfl
 i167 := by kernel_rfl
 i168 := by kernel_rfl
 i171 := by kernel_rfl
 i173 := by kernel_rfl
 i175 := by kernel_rfl
 i210 := by kernel_rfl
 i212 := by kernel_rfl
 i232 := by kernel_rfl
 i233 := by kernel_rfl
 m15 := by kernel_rfl
 m16 := by kernel_rfl
 m17 := by kernel_rfl
 m18 := by kernel_rfl
 m19 := by kernel_rfl
 c0 := by kernel_rfl
 c2 := by kernel_rfl
 c3 := by kernel_rfl
 c4 := by kernel_rfl
 c5 := by kernel_rfl
 c9 := by kernel_rfl
 c20 := by kernel_rfl
 c21 := by kernel_rfl
 c37 := by kernel_rfl
 c46 := by kernel_rfl
 c51 := by kernel_rfl
 c53 := by kernel_rfl
 c75 := by kernel_rfl
 c80 := by kernel_rfl
 c85 := by kernel_rfl
 c127 := by kernel_rfl
 c143 := by kernel_rfl
 c145 := by kernel_rfl
 c167 := by kernel_rfl
 c168 := by kernel_rfl
 c171 := by kernel_rfl
 c173 := by kernel_rfl
 c175 := by kernel_rfl
 c210 := by kernel_rfl
 c212 := by kernel_rfl
 c213 := by kernel_rfl
 c232 := by kernel_rfl
 c233 := by kernel_rfl }
open Go.RowKit in
theorem Tryz.strconv_ParseInt_10_at64_ok (s : ByteArray) (hmax : s.size <= 9223372036854775806) (v : Int) (h : Lib.parseIntB 64 s.data.toList = .ok v) (w : World) :
 Calls prog 266 #[.string s, .int .i64 10, .int .i64 64] w fun e w' => e = .returned (.tuple #[.int .i64 v, .nilIface]) /\ (w' = w ∨ ∃ t, w' = Lib.bytesWorld w 5 t) := Any.strconv_ParseInt_10_at64_ok Tryz.laysC174 s hmax v h w
def Tryz.laysPu14_ren : Go.Shelf.Ren := ⟨fun | 14 => 240 | 16 => 249 | 17 => 250 | 19 => 259 | 20 => 260 | 21 => 261 | 22 => 262 | 23 => 263 | 24 => 264 | 25 => 276 | 27 => 278 | 26 => 277 | 28 => 284 | 29 => 288 | 30 => 163 | 31 => 164 | 32 => 165 | 33 => 166 | 35 => 179 | 34 => 178 | 36 => 180 | 37 => 181 | 38 => 182 | 39 => 203 | 40 => 204 | n => n, fun | 9 => 9 | 3 => 3 | 22 => 22 | 24 => 118 | 25 => 237 | 4 => 4 | 34 => 338 | 5 => 5 | 36 => 258 | 37 => 128 | 0 => 0 | 39 => 340 | 21 => 21 | 44 => 346 | 47 => 347 | 50 => 350 | 48 => 348 | 2 => 2 | 52 => 252 | 55 => 254 | 59 => 280 | 60 => 259 | 20 => 20 | 61 => 281 | 65 => 315 | 66 => 316 | 67 => 196 | n => n, fun | 0 => 13 | 1 => 14 | 2 => 5 | 3 => 9 | 4 => 10 | n => n⟩
theorem Tryz.laysPu14 : Go.Proofs.LaysPu.n14 prog Tryz.laysPu14_ren := {
 mixed := by kernel_rfl
 f14 := func240.trans (congrArg some (by kernel_rfl))
 f16 := func249.trans (congrArg some (by kernel_rfl))
 f17 := func250.trans (congrArg some (by kernel_rfl))
 f19 := func259.trans (congrArg some (by kernel_rfl))
 f20 := func260.trans (congrArg some (by kernel_rfl))
 f21 := func261.trans (congrArg some (by kernel_rfl))
 f22 := func262.trans (congrArg some (by kernel_rfl))
 f23 := func263.trans (congrArg some (by kernel_rfl))
 f24 := func264.trans (congrArg some (by kernel_rfl))
 f25 := func276.trans (congrArg some (by kernel_rfl))
 f26 := func277.trans (congrArg some (by kernel_rfl))
 f27 := func278.trans (congrArg some (by kernel_rfl))
 f28 := func284.trans (congrArg some (by kernel_rfl))
 f29 := func288.trans (congrArg some (by kernel_rfl))
 f30 := func163.trans (congrArg some (by kernel_rfl))
 f31 := func164.trans (congrArg some (by kernel_rfl))
 f32 := func165.trans (congrArg some (by kernel_rfl))
 f33 := func166.trans (congrArg some (by kernel_rfl))
 f34 := func178.trans (congrArg some (by kernel_rfl))
 f35 := func179.trans (congrArg some (by kernel_rfl))
 f36 := func180.trans (congrArg some (by kernel_rfl))
 f37 := func181.trans (congrArg some (by kernel_rfl))
 f38 := func182.trans (congrArg some (by kernel_rfl))
 f39 := func203.trans (congrArg some (by kernel_rfl))
 f40 := func204.trans (congrArg some (by kernel_rfl))
 t0 := underlying0
 a0 := Tryz.isAgg0
 z0 := Tryz.sizeOf0
 v0 := Tryz.zeroValue0
 i0 := by kernel_rfl
 t2 := underlying2
 a2 := Tryz.isAgg2
 z2 := Tryz.sizeOf2
 v2 := Tryz.zeroValue2
 i2 := by kernel_rfl
 t3 := underlying3
 a3 := Tryz.isAgg3
 z3 := Tryz.sizeOf3
 v3 := Tryz.zeroValue3
 i3 := by kernel_rfl
 t4 := underlying4
 a4 := Tryz.isAgg4
 z4 := Tryz.sizeOf4
 v4 := Tryz.zeroValue4
 i4 := by kernel_rfl
 t5 := underlying5
 a5 := Tryz.isAgg5
 z5 := Tryz.sizeOf5
 v5 := Tryz.zeroValue5
 i5 := by kernel_rfl
 t9 := underlying9
 a9 := Tryz.isAgg9
 z9 := Tryz.sizeOf9
 v9 := Tryz.zeroValue9
 i9 := by kernel_rfl
 t20 := underlying20
 a20 := Tryz.isAgg20
 z20 := Tryz.sizeOf20
 v20 := Tryz.zeroValue20
 i20 := by kernel_rfl
 t21 := underlying21
 a21 := Tryz.isAgg21
 z21 := Tryz.sizeOf21
 v21 := Tryz.zeroValue21
 i21 := by kernel_rfl
 t22 := underlying22
 a22 := Tryz.isAgg22
 z22 := Tryz.sizeOf22
 v22 := Tryz.zeroValue22
 i22 := by kernel_rfl
 t24 := underlying118
 a24 := Tryz.isAgg118
 z24 := Tryz.sizeOf118
 v24 := Tryz.zeroValue118
 i24 := by kernel_rfl
 t25 := underlying237
 a25 := Tryz.isAgg237
 z25 := Tryz.sizeOf237
 v25 := Tryz.zeroValue237
 i25 := by kernel_rfl
 t34 := underlying338
 a34 := Tryz.isAgg338
 z34 := Tryz.sizeOf338
 v34 := Tryz.zeroValue338
 i34 := by kernel_rfl
 c34 := by kernel_rfl
 t36 := underlying258
 a36 := Tryz.isAgg258
 z36 := Tryz.sizeOf258
 v36 := Tryz.zeroValue258
 i36 := by kernel_rfl
 t37 := underlying128
 a37 := Tryz.isAgg128
 z37 := Tryz.sizeOf128
 v37 := Tryz.zeroValue128
 i37 := by kernel_rfl
 t39 := underlying340
 a39 := Tryz.isAgg340
 z39 := Tryz.sizeOf340
 v39 := Tryz.zeroValue340
 i39 := by kernel_rfl
 t44 := underlying346
 a44 := Tryz.isAgg346
 z44 := Tryz.sizeOf346
 v44 := Tryz.zeroValue346
 i44 := by kernel_rfl
 t47 := underlying347
 a47 := Tryz.isAgg347
 z47 := Tryz.sizeOf347
 v47 := Tryz.zeroValue347
 i47 := by kernel_rfl
 t48 := underlying348
 a48 := Tryz.isAgg348
 z48 := Tryz.sizeOf348
 v48 := Tryz.zeroValue348
 i48 := by kernel_rfl
 t50 := underlying350
 a50 := Tryz.isAgg350
 z50 := Tryz.sizeOf350
 v50 := Tryz.zeroValue350
 i50 := by kernel_rfl
 t52 := underlying252
 a52 := Tryz.isAgg252
 z52 := Tryz.sizeOf252
 v52 := Tryz.zeroValue252
 i52 := by kernel_rfl
 t55 := underlying254
 a55 := Tryz.isAgg254
 z55 := Tryz.sizeOf254
 v55 := Tryz.zeroValue254
 i55 := by kernel_rfl
 t59 := underlying280
 a59 := Tryz.isAgg280
 z59 := Tryz.sizeOf280
 v59 := Tryz.zeroValue280
 i59 := by kernel_rfl
 t60 := underlying259
 a60 := Tryz.isAgg259
 z60 := Tryz.sizeOf259
 v60 := Tryz.zeroValue259
 i60 := by kernel_rfl
 t61 := underlying281
 a61 := Tryz.isAgg281
 z61 := Tryz.sizeOf281
 t65 := underlying315
 a65 := Tryz.isAgg315
 z65 := Tryz.sizeOf315
 v65 := Tryz.zeroValue315
 i65 := by kernel_rfl
 t66 := underlying316
 a66 := Tryz.isAgg316
 z66 := Tryz.sizeOf316
 v66 := Tryz.zeroValue316
 i66 := by kernel_rfl
 t67 := underlying196
 a67 := Tryz.isAgg196
 z67 := Tryz.sizeOf196
 v67 := Tryz.zeroValue196
 i67 := by kernel_rfl
 g0 := by kernel_rfl
 m0 := by kernel_rfl
 g1 := by kernel_rfl
 m1 := by kernel_rfl
 g2 := by kernel_rfl
 m2 := by kernel_rfl
 g3 := by kernel_rfl
 m3 := by kernel_rfl
 g4 := by kernel_rfl
 m4 := by kernel_rfl }
open Go.RowKit in
theorem Tryz.strconv_ParseUint_10_at64_ok (s : ByteArray) (hmax : s.size <= 9223372036854775806) (u : Nat) (h : Lib.parseUintB 64 s.data.toList = .ok u) (w : World) :
 Calls prog 240 #[.string s, .int .i64 10, .int .i64 64] w fun e w' => e = .returned (.tuple #[.int .u64 u, .nilIface]) /\ (w' = w ∨ w' = Lib.bytesWorld w 5 s) := Any.strconv_ParseUint_10_at64_ok Tryz.laysPu14 s hmax u h w
def Tryz.laysM288_ren : Go.Shelf.Ren := ⟨fun | 288 => 148 | 283 => 163 | 284 => 164 | 285 => 165 | 286 => 166 | 129 => 179 | 317 => 178 | 318 => 180 | 319 => 181 | 320 => 182 | 337 => 203 | 338 => 204 | n => n, fun | 37 => 128 | 53 => 22 | 3 => 3 | 4 => 4 | 9 => 9 | 171 => 252 | 0 => 0 | 173 => 254 | 212 => 280 | 51 => 259 | 5 => 5 | 20 => 20 | 213 => 281 | 46 => 258 | 232 => 315 | 233 => 316 | n => n, fun | 17 => 5 | 18 => 9 | 19 => 10 | n => n⟩
theorem Tryz.laysM288 : Go.Proofs.LaysM.n288 prog Tryz.laysM288_ren := {
 mixed := by kernel_rfl
 f129 := func179.trans (congrArg some (by kernel_rfl))
 f283 := func163.trans (congrArg some (by kernel_rfl))
 f284 := func164.trans (congrArg some (by kernel_rfl))
 f285 := func165.trans (congrArg some (by kernel_rfl))
 f286 := func166.trans (congrArg some (by kernel_rfl))
 f288 := func148.trans (congrArg some (by kernel_rfl))
 f317 := func178.trans (congrArg some (by kernel_rfl))
 f318 := func180.trans (congrArg some (by kernel_rfl))
 f319 := func181.trans (congrArg some (by kernel_rfl))
 f320 := func182.trans (congrArg some (by kernel_rfl))
 f337 := func203.trans (congrArg some (by kernel_rfl))
 f338 := func204.trans (congrArg some (by kernel_rfl))
 t0 := underlying0
 a0 := Tryz.isAgg0
 z0 := Tryz.sizeOf0
 v0 := Tryz.zeroValue0
 t3 := underlying3
 a3 := Tryz.isAgg3
 z3 := Tryz.sizeOf3
 v3 := Tryz.zeroValue3
 t4 := underlying4
 a4 := Tryz.isAgg4
 z4 := Tryz.sizeOf4
 v4 := Tryz.zeroValue4
 t5 := underlying5
 a5 := Tryz.isAgg5
 z5 := Tryz.sizeOf5
 v5 := Tryz.zeroValue5
 t9 := underlying9
 a9 := Tryz.isAgg9
 z9 := Tryz.sizeOf9
 v9 := Tryz.zeroValue9
 t20 := underlying20
 a20 := Tryz.isAgg20
 z20 := Tryz.sizeOf20
 v20 := Tryz.zeroValue20
 t37 := underlying128
 a37 := Tryz.isAgg128
 z37 := Tryz.sizeOf128
 v37 := Tryz.zeroValue128
 t46 := underlying258
 a46 := Tryz.isAgg258
 z46 := Tryz.sizeOf258
 v46 := Tryz.zeroValue258
 t51 := underlying259
 a51 := Tryz.isAgg259
 z51 := Tryz.sizeOf259
 v51 := Tryz.zeroValue259
 t53 := underlying22
 a53 := Tryz.isAgg22
 z53 := Tryz.sizeOf22
 v53 := Tryz.zeroValue22
 t171 := underlying252
 a171 := Tryz.isAgg252
 z171 := Tryz.sizeOf252
 v171 := Tryz.zeroValue252
 t173 := underlying254
 a173 := Tryz.isAgg254
 z173 := Tryz.sizeOf254
 v173 := Tryz.zeroValue254
 t212 := underlying280
 a212 := Tryz.isAgg280
 z212 := Tryz.sizeOf280
 v212 := Tryz.zeroValue280
 t213 := underlying281
 a213 := Tryz.isAgg281
 z213 := Tryz.sizeOf281
 t232 := underlying315
 a232 := Tryz.isAgg315
 z232 := Tryz.sizeOf315
 v232 := Tryz.zeroValue315
 t233 := underlying316
 a233 := Tryz.isAgg316
 z233 := Tryz.sizeOf316
 v233 := Tryz.zeroValue316
 g17 := by kernel_rfl
 g18 := by kernel_rfl
 g19 := by kernel_rfl
 i0 := by kernel_rfl
 i3 := by kernel_rfl
 i4 := by kernel_rfl
 i5 := by kernel_rfl
 i9 := by kernel_rfl
 i20 := by kernel_rfl
 i37 := by kernel_rfl
 i46 := by kernel_rfl
 i51 := by kernel_rfl
 i53 := by kernel_rfl
 i171 := by kernel_rfl
 i173 := by kernel_rfl
 i212 := by kernel_rfl
 i232 := by kernel_rfl
 i233 := by kernel_rfl
 m17 := by kernel_rfl
 m18 := by kernel_rfl
 m19 := by kernel_rfl }
open Go.RowKit Go.Sort Go.Lib in
theorem Tryz.internal_strconv_AppendUint_10 (B n u : Nat) (hu64 : u < 18446744073709551616) (sv : Value) (xs : List Value) (w : World) (hown : w.ownsRow B 5 1 sv n xs) (hBw : B <= w.heap.size) (hlim : n + 20 <= 140737488355328) (htab : Lib.TabIs prog w "internal/strconv.uint64pow10" .u64 Lib.pow10Tab) :
 Calls prog 148 #[sv, .int .u64 u, .int .i64 10] w fun e w' => ∃ v', e = .returned v' /\ w'.ownsRow B 5 1 v' (n + (Lib.decDigits u).length) (xs ++ Lib.byteCells (Lib.decDigits u)) /\ Below B w w' /\ Lib.OthersKept 5 none w w' := Any.internal_strconv_AppendUint_10 Tryz.laysM288 B n u hu64 sv xs w hown hBw hlim htab
def Tryz.laysM176_ren : Go.Shelf.Ren := ⟨fun | 176 => 126 | 249 => 147 | 288 => 148 | 283 => 163 | 284 => 164 | 285 => 165 | 286 => 166 | 129 => 179 | 317 => 178 | 318 => 180 | 319 => 181 | 320 => 182 | 337 => 203 | 338 => 204 | n => n, fun | 37 => 128 | 2 => 2 | 3 => 3 | 53 => 22 | 4 => 4 | 9 => 9 | 171 => 252 | 0 => 0 | 173 => 254 | 212 => 280 | 51 => 259 | 5 => 5 | 20 => 20 | 213 => 281 | 46 => 258 | 232 => 315 | 233 => 316 | n => n, fun | 17 => 5 | 18 => 9 | 19 => 10 | n => n⟩
theorem Tryz.laysM176 : Go.Proofs.LaysM.n176 prog Tryz.laysM176_ren := {
 mixed := by kernel_rfl
 f129 := func179.trans (congrArg some (by kernel_rfl))
 f176 := func126.trans (congrArg some (by kernel_rfl))
 f249 := func147.trans (congrArg some (by kernel_rfl))
 f283 := func163.trans (congrArg some (by kernel_rfl))
 f284 := func164.trans (congrArg some (by kernel_rfl))
 f285 := func165.trans (congrArg some (by kernel_rfl))
 f286 := func166.trans (congrArg some (by kernel_rfl))
 f288 := func148.trans (congrArg some (by kernel_rfl))
 f317 := func178.trans (congrArg some (by kernel_rfl))
 f318 := func180.trans (congrArg some (by kernel_rfl))
 f319 := func181.trans (congrArg some (by kernel_rfl))
 f320 := func182.trans (congrArg some (by kernel_rfl))
 f337 := func203.trans (congrArg some (by kernel_rfl))
 f338 := func204.trans (congrArg some (by kernel_rfl))
 t0 := underlying0
 a0 := Tryz.isAgg0
 z0 := Tryz.sizeOf0
 v0 := Tryz.zeroValue0
 t2 := underlying2
 a2 := Tryz.isAgg2
 z2 := Tryz.sizeOf2
 v2 := Tryz.zeroValue2
 t3 := underlying3
 a3 := Tryz.isAgg3
 z3 := Tryz.sizeOf3
 v3 := Tryz.zeroValue3
 t4 := underlying4
 a4 := Tryz.isAgg4
 z4 := Tryz.sizeOf4
 v4 := Tryz.zeroValue4
 t5 := underlying5
 a5 := Tryz.isAgg5
 z5 := Tryz.sizeOf5
 v5 := Tryz.zeroValue5
 t9 := underlying9
 a9 := Tryz.isAgg9
 z9 := Tryz.sizeOf9
 v9 := Tryz.zeroValue9
 t20 := underlying20
 a20 := Tryz.isAgg20
 z20 := Tryz.sizeOf20
 v20 := Tryz.zeroValue20
 t37 := underlying128
 a37 := Tryz.isAgg128
 z37 := Tryz.sizeOf128
 v37 := Tryz.zeroValue128
 t46 := underlying258
 a46 := Tryz.isAgg258
 z46 := Tryz.sizeOf258
 v46 := Tryz.zeroValue258
 t51 := underlying259
 a51 := Tryz.isAgg259
 z51 := Tryz.sizeOf259
 v51 := Tryz.zeroValue259
 t53 := underlying22
 a53 := Tryz.isAgg22
 z53 := Tryz.sizeOf22
 v53 := Tryz.zeroValue22
 t171 := underlying252
 a171 := Tryz.isAgg252
 z171 := Tryz.sizeOf252
 v171 := Tryz.zeroValue252
 t173 := underlying254
 a173 := Tryz.isAgg254
 z173 := Tryz.sizeOf254
 v173 := Tryz.zeroValue254
 t212 := underlying280
 a212 := Tryz.isAgg280
 z212 := Tryz.sizeOf280
 v212 := Tryz.zeroValue280
 t213 := underlying281
 a213 := Tryz.isAgg281
 z213 := Tryz.sizeOf281
 t232 := underlying315
 a232 := Tryz.isAgg315
 z232 := Tryz.sizeOf315
 v232 := Tryz.zeroValue315
 t233 := underlying316
 a233 := Tryz.isAgg316
 z233 := Tryz.sizeOf316
 v233 := Tryz.zeroValue316
 g17 := by kernel_rfl
 g18 := by kernel_rfl
 g19 := by kernel_rfl
 i0 := by kernel_rfl
 i2 := by kernel_rfl
 i3 := by kernel_rfl
 i4 := by kernel_rfl
 i5 := by kernel_rfl
 i9 := by kernel_rfl
 i20 := by kernel_rfl
 i37 := by kernel_rfl
 i46 := by kernel_rfl
 i51 := by kernel_rfl
 i53 := by kernel_rfl
 i171 := by kernel_rfl
 i173 := by kernel_rfl
 i212 := by kernel_rfl
 i232 := by kernel_rfl
 i233 := by kernel_rfl
 m17 := by kernel_rfl
 m18 := by kernel_rfl
 m19 := by kernel_rfl }
open Go.RowKit Go.Sort Go.Lib in
theorem Tryz.strconv_AppendInt_10 (B n : Nat) (i : Int) (h0 : -9223372036854775808 <= i) (h1 : i <= 9223372036854775807) (sv : Value) (xs : List Value) (w : World) (hown : w.ownsRow B 5 1 sv n xs) (hBw : B <= w.heap.size) (hlim : n + 21 <= 140737488355328) (htab : Lib.TabBelow prog B w "internal/strconv.uint64pow10" .u64 Lib.pow10Tab) :
 Calls prog 126 #[sv, .int .i64 i, .int .i64 10] w fun e w' => ∃ v', e = .returned v' /\ w'.ownsRow B 5 1 v' (n + (Lib.itoa i).length) (xs ++ Lib.byteCells (Lib.itoa i)) /\ Below B w w' /\ Lib.OthersKept 5 none w w' := Any.strconv_AppendInt_10 Tryz.laysM176 B n i h0 h1 sv xs w hown hBw hlim htab
def Tryz.lays99_ren : Go.Shelf.Ren := ⟨fun | 99 => 238 | 206 => 247 | n => n, fun | 9 => 9 | 4 => 4 | 3 => 3 | n => n, fun | n => n⟩
theorem Tryz.lays99 : Go.Proofs.Lays.n99 prog Tryz.lays99_ren := {
 mixed := by kernel_rfl
 f99 := func238.trans (congrArg some (by kernel_rfl))
 f206 := func247.trans (congrArg some (by kernel_rfl))
 t3 := underlying3
 a3 := Tryz.isAgg3
 z3 := Tryz.sizeOf3
 v3 := Tryz.zeroValue3
 t4 := underlying4
 a4 := Tryz.isAgg4
 z4 := Tryz.sizeOf4
 v4 := Tryz.zeroValue4
 t9 := underlying9
 a9 := Tryz.isAgg9
 z9 := Tryz.sizeOf9
 v9 := Tryz.zeroValue9 }
open Go.RowKit Go.Lib in
theorem Tryz.strings_HasPrefix (s p : ByteArray) (w : World) :
 Calls prog 238 #[.string s, .string p] w fun e w' => e = .returned (.bool (Lib.hasPrefix s.data.toList p.data.toList)) /\ w' = w := Any.strings_HasPrefix Tryz.lays99 s p w
def Tryz.lays101_ren : Go.Shelf.Ren := ⟨fun | 101 => 239 | 208 => 248 | 206 => 247 | n => n, fun | 9 => 9 | 4 => 4 | 3 => 3 | n => n, fun | n => n⟩
theorem Tryz.lays101 : Go.Proofs.Lays.n101 prog Tryz.lays101_ren := {
 mixed := by kernel_rfl
 f101 := func239.trans (congrArg some (by kernel_rfl))
 f206 := func247.trans (congrArg some (by kernel_rfl))
 f208 := func248.trans (congrArg some (by kernel_rfl))
 t3 := underlying3
 a3 := Tryz.isAgg3
 z3 := Tryz.sizeOf3
 v3 := Tryz.zeroValue3
 t4 := underlying4
 a4 := Tryz.isAgg4
 z4 := Tryz.sizeOf4
 v4 := Tryz.zeroValue4
 t9 := underlying9
 a9 := Tryz.isAgg9
 z9 := Tryz.sizeOf9
 v9 := Tryz.zeroValue9 }
open Go.RowKit Go.Lib in
theorem Tryz.strings_TrimPrefix (s p : ByteArray) (w : World) :
 Calls prog 239 #[.string s, .string p] w fun e w' => e = .returned (.string ⟨(Lib.trimPrefix s.data.toList p.data.toList).toArray⟩) /\ w' = w := Any.strings_TrimPrefix Tryz.lays101 s p w
open Go.RowKit in
def Tryz.laysNm216_ren : Go.Shelf.Ren := ⟨fun | 16 => 124 | n => n, fun | 24 => 25 | 9 => 9 | 4 => 4 | n => n, fun | n => n⟩
theorem Tryz.laysNm216 : Go.Proofs.Lays2.n16 prog Tryz.laysNm216_ren := {
 mixed := by kernel_rfl
 f16 := func124.trans (congrArg some (by kernel_rfl))
 t4 := underlying4
 a4 := Tryz.isAgg4
 z4 := Tryz.sizeOf4
 v4 := Tryz.zeroValue4
 t9 := underlying9
 a9 := Tryz.isAgg9
 z9 := Tryz.sizeOf9
 v9 := Tryz.zeroValue9
 t24 := underlying25
 a24 := Tryz.isAgg25
 z24 := Tryz.sizeOf25
 v24 := Tryz.zeroValue25
 i9 := by kernel_rfl }
open Go.RowKit Go.Lib in
open Go.RowKit Go.Lib in
open Go.RowKit Go.Lib in
theorem Tryz.slices_Clone_string_zero (a : Addr) (c : Nat) (w : World) :
 Calls prog 124 #[.slice (some a) 0 c] w fun e w' => ∃ v', e = .returned v' /\ w'.ownsRow w.heap.size 9 1 v' 0 [] /\ v' ≠ .slice none 0 0 /\ Below w.heap.size w w' := Any.slices_Clone_string_zero Tryz.laysNm216 a c w
def Tryz.laysSlE041_f75_ren : Go.Shelf.Ren := ⟨fun | 41 => 75 | n => n, fun | 22 => 75 | 23 => 2 | 4 => 4 | n => n, fun | n => n⟩
theorem Tryz.laysSlE041_f75 : Go.Proofs.SlLaysE0.n41 prog Tryz.laysSlE041_f75_ren := {
 mixed := by kernel_rfl
 f41 := ⟨f75.name, by decide, func75.trans (congrArg some (by kernel_rfl))⟩
 t4 := underlying4
 a4 := Tryz.isAgg4
 z4 := Tryz.sizeOf4
 v4 := Tryz.zeroValue4
 t22 := underlying75
 a22 := Tryz.isAgg75
 z22 := Tryz.sizeOf75
 v22 := Tryz.zeroValue75 }
open Go.RowKit Go.Lib in
theorem Tryz.slices_Clone_f75 (i0 : TypeInfo) (z : Value) (size bytes : Nat) (hi : prog.info? 2 = some i0) (hz0 : i0.zero = some z) (hz1 : i0.size = size) (hz2 : i0.bytes = bytes) (hzs : z.cells.size = size) (hsz : 0 < size) (z23 : ∀ w, (Go.sizeOf 2).run prog w = .ok size w) (b off n c : Nat) (news : List Value) (w : World) (hl : news.length = n * size) (hn : n <= maxLen) (hbig : n * bytes <= 140737488355328) (hc : ∀ j u, news[j]? = some u -> w.cell? ⟨b, off + j, none⟩ = some u) (h1 : ∀ u ∈ news, u.oneCell' = true) :
 Calls prog 75 #[.slice (some ⟨b, off, none⟩) n c] w fun e w' => ∃ v', e = .returned v' /\ w'.ownsRow w.heap.size 2 size v' n news /\ v' ≠ .slice none 0 0 /\ Below w.heap.size w w' := AnyE.slices_Clone Tryz.laysSlE041_f75 i0 z size bytes hi hz0 hz1 hz2 hzs hsz z23 b off n c news w hl hn hbig hc h1
def Tryz.laysSlE041_f124_ren : Go.Shelf.Ren := ⟨fun | 41 => 124 | n => n, fun | 22 => 25 | 23 => 9 | 4 => 4 | n => n, fun | n => n⟩
theorem Tryz.laysSlE041_f124 : Go.Proofs.SlLaysE0.n41 prog Tryz.laysSlE041_f124_ren := {
 mixed := by kernel_rfl
 f41 := ⟨f124.name, by decide, func124.trans (congrArg some (by kernel_rfl))⟩
 t4 := underlying4
 a4 := Tryz.isAgg4
 z4 := Tryz.sizeOf4
 v4 := Tryz.zeroValue4
 t22 := underlying25
 a22 := Tryz.isAgg25
 z22 := Tryz.sizeOf25
 v22 := Tryz.zeroValue25 }
open Go.RowKit Go.Lib in
theorem Tryz.slices_Clone_f124 (i0 : TypeInfo) (z : Value) (size bytes : Nat) (hi : prog.info? 9 = some i0) (hz0 : i0.zero = some z) (hz1 : i0.size = size) (hz2 : i0.bytes = bytes) (hzs : z.cells.size = size) (hsz : 0 < size) (z23 : ∀ w, (Go.sizeOf 9).run prog w = .ok size w) (b off n c : Nat) (news : List Value) (w : World) (hl : news.length = n * size) (hn : n <= maxLen) (hbig : n * bytes <= 140737488355328) (hc : ∀ j u, news[j]? = some u -> w.cell? ⟨b, off + j, none⟩ = some u) (h1 : ∀ u ∈ news, u.oneCell' = true) :
 Calls prog 124 #[.slice (some ⟨b, off, none⟩) n c] w fun e w' => ∃ v', e = .returned v' /\ w'.ownsRow w.heap.size 9 size v' n news /\ v' ≠ .slice none 0 0 /\ Below w.heap.size w w' := AnyE.slices_Clone Tryz.laysSlE041_f124 i0 z size bytes hi hz0 hz1 hz2 hzs hsz z23 b off n c news w hl hn hbig hc h1
open Go.RowKit Go.Lib in
theorem Tryz.slices_Clone_nil_f75 (n c : Nat) (w : World) :
 Calls prog 75 #[.slice none n c] w fun e w' => e = .returned (.slice none 0 0) /\ w' = w := AnyE.slices_Clone_nil Tryz.laysSlE041_f75 n c w
open Go.RowKit Go.Lib in
theorem Tryz.slices_Clone_nil_f124 (n c : Nat) (w : World) :
 Calls prog 124 #[.slice none n c] w fun e w' => e = .returned (.slice none 0 0) /\ w' = w := AnyE.slices_Clone_nil Tryz.laysSlE041_f124 n c w
end Go.Proofs
