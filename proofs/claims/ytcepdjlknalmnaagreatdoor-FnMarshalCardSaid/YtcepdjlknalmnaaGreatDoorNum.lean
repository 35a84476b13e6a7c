/- Numbers that are read: what a number's text spells. -/
import Derived.Shelf.Strings.TrimSpace
import Derived.Shelf.Small.Utf8
import Derived.Shelf.Small.Bits
import Derived.Shelf.Strconv.Atoi
import Derived.Shelf.Strconv.Itoa0
import Derived.Shelf.Strconv.Itoa1
import Derived.Shelf.LaysM
import Derived.Shelf.Strconv.Itoa2
import Derived.Shelf.Strconv.Itoa3
import Derived.Shelf.Strconv.AtoiErrFast
import Derived.Shelf.Strconv.ParseIntEmpty
import Derived.Shelf.Strconv.AtoiFail
import Derived.Shelf.Strconv.Clone
import Derived.Shelf.Strconv.SyntaxError
import Derived.Shelf.LaysC
import Derived.Shelf.Strconv.ToError
import Derived.Shelf.Strconv.Lower
import Derived.Shelf.Strconv.ParseUint10
import Derived.Shelf.Strconv.ParseUint10Empty
import Derived.Shelf.Strconv.ParseUint10Any
import Derived.Shelf.Strconv.ParseInt10
import Derived.Shelf.Strconv.AtoiLong
import Derived.Shelf.Strconv.AtoiInnerAll
import Derived.Shelf.Strconv.RangeError
import Derived.Shelf.Strconv.ToErrorRange
import Derived.Shelf.Strconv.AtoiAll
import Derived.Shelf.Strconv.ErrVarAll
import Derived.Shelf.Strconv.ParseUintEmpty
import Derived.Shelf.Strconv.ParseUint10b64
import Derived.Shelf.Strconv.ParseUint10b32
import Derived.Shelf.Strconv.ParseUint10b16
import Derived.Shelf.Strconv.ParseUint10b8
import Derived.Shelf.Strconv.ParseUint10At
import Derived.Shelf.Strconv.ParseInt10At64
import Derived.Shelf.Strconv.ParseInt10At32
import Derived.Shelf.Strconv.ParseInt10At16
import Derived.Shelf.Strconv.ParseInt10At8
import Derived.Shelf.Strconv.ParseInt10All
import Derived.Shelf.Strconv.ParseIntPublic10
import Derived.Shelf.Strconv.ErrVarParseInt
import Derived.Ground.MpProg
import Derived.Shelf.Pu.ParseUintPublic10
import Derived.Shelf.Pu.ErrVarParseUint
import Derived.Shelf.Strconv.AppendUint10
import Derived.Shelf.Strconv.AppendInt10
import Derived.Shelf.Strconv.AppendIntPublic10
import Derived.Shelf.Strings.Prefix
import Derived.Shelf.Unicode.Latin
import Derived.Shelf.Unicode.Decode
import Derived.Shelf.Unicode.DecodeSlow
import Derived.Shelf.Unicode.DecodeAny
import Derived.Shelf.Unicode.Is16White
import Derived.Shelf.Unicode.IsSpaceAny
import Derived.Shelf.Unicode.DecodeLast
import Derived.Shelf.Strings.TrimSpaceAny
import Derived.Shelf.Unicode.Is16Any
import Derived.Shelf.Unicode.Is32Any
import Derived.Shelf.Unicode.ExclAny
import Derived.Ground.Names2Prog
import Derived.Shelf.Slices.Clone
import Derived.Ground.SlgnProg
import Derived.Shelf.SlicesE.Clone
import Derived.Test.YtcepdjlknalmnaaGreatDoorProg
import Derived.Test.YtcepdjlknalmnaaGreatDoorTxtD
import Derived.Lib.ParseIntBTie
namespace Go.Proofs
open Go.Shelf
open Go.RowKit in
open Go.RowKit in
open Go.RowKit in
open Go.RowKit in
def Tryz.laysM288_ren : Go.Shelf.Ren := ⟨fun | 288 => 148 | 283 => 163 | 284 => 164 | 285 => 165 | 286 => 166 | 129 => 179 | 317 => 178 | 318 => 180 | 319 => 181 | 320 => 182 | 337 => 203 | 338 => 204 | n => n, fun | 37 => 128 | 53 => 22 | 3 => 3 | 4 => 4 | 9 => 9 | 171 => 252 | 0 => 0 | 173 => 254 | 212 => 280 | 51 => 259 | 5 => 5 | 20 => 20 | 213 => 281 | 46 => 258 | 232 => 315 | 233 => 316 | n => n, fun | 17 => 5 | 18 => 9 | 19 => 10 | n => n⟩
theorem Tryz.laysM288 : Go.Proofs.LaysM.n288 Tryz.prog Tryz.laysM288_ren := {
 mixed := by kernel_rfl
 f129 := Tryz.func179.trans (congrArg some (by kernel_rfl))
 f283 := Tryz.func163.trans (congrArg some (by kernel_rfl))
 f284 := Tryz.func164.trans (congrArg some (by kernel_rfl))
 f285 := Tryz.func165.trans (congrArg some (by kernel_rfl))
 f286 := Tryz.func166.trans (congrArg some (by kernel_rfl))
 f288 := Tryz.func148.trans (congrArg some (by kernel_rfl))
 f317 := Tryz.func178.trans (congrArg some (by kernel_rfl))
 f318 := Tryz.func180.trans (congrArg some (by kernel_rfl))
 f319 := Tryz.func181.trans (congrArg some (by kernel_rfl))
 f320 := Tryz.func182.trans (congrArg some (by kernel_rfl))
 f337 := Tryz.func203.trans (congrArg some (by kernel_rfl))
 f338 := Tryz.func204.trans (congrArg some (by kernel_rfl))
 t0 := Tryz.underlying0
 a0 := Tryz.isAgg0
 z0 := Tryz.sizeOf0
 v0 := Tryz.zeroValue0
 t3 := Tryz.underlying3
 a3 := Tryz.isAgg3
 z3 := Tryz.sizeOf3
 v3 := Tryz.zeroValue3
 t4 := Tryz.underlying4
 a4 := Tryz.isAgg4
 z4 := Tryz.sizeOf4
 v4 := Tryz.zeroValue4
 t5 := Tryz.underlying5
 a5 := Tryz.isAgg5
 z5 := Tryz.sizeOf5
 v5 := Tryz.zeroValue5
 t9 := Tryz.underlying9
 a9 := Tryz.isAgg9
 z9 := Tryz.sizeOf9
 v9 := Tryz.zeroValue9
 t20 := Tryz.underlying20
 a20 := Tryz.isAgg20
 z20 := Tryz.sizeOf20
 v20 := Tryz.zeroValue20
 t37 := Tryz.underlying128
 a37 := Tryz.isAgg128
 z37 := Tryz.sizeOf128
 v37 := Tryz.zeroValue128
 t46 := Tryz.underlying258
 a46 := Tryz.isAgg258
 z46 := Tryz.sizeOf258
 v46 := Tryz.zeroValue258
 t51 := Tryz.underlying259
 a51 := Tryz.isAgg259
 z51 := Tryz.sizeOf259
 v51 := Tryz.zeroValue259
 t53 := Tryz.underlying22
 a53 := Tryz.isAgg22
 z53 := Tryz.sizeOf22
 v53 := Tryz.zeroValue22
 t171 := Tryz.underlying252
 a171 := Tryz.isAgg252
 z171 := Tryz.sizeOf252
 v171 := Tryz.zeroValue252
 t173 := Tryz.underlying254
 a173 := Tryz.isAgg254
 z173 := Tryz.sizeOf254
 v173 := Tryz.zeroValue254
 t212 := Tryz.underlying280
 a212 := Tryz.isAgg280
 z212 := Tryz.sizeOf280
 v212 := Tryz.zeroValue280
 t213 := Tryz.underlying281
 a213 := Tryz.isAgg281
 z213 := Tryz.sizeOf281
 t232 := Tryz.underlying315
 a232 := Tryz.isAgg315
 z232 := Tryz.sizeOf315
 v232 := Tryz.zeroValue315
 t233 := Tryz.underlying316
 a233 := Tryz.isAgg316
 z233 := Tryz.sizeOf316
 v233 := Tryz.zeroValue316
 g17 := by kernel_rfl
 g18 := by kernel_rfl
 g19 := by kernel_rfl
 i0 := by kernel_rfl
 i3 := by kernel_rfl
 i4 := by kernel_rfl
 i5 := by kernel_rfl
 i9 := by kernel_rfl
 i20 := by kernel_rfl
 i37 := by kernel_rfl
 i46 := by kernel_rfl
 i51 := by kernel_rfl
 i53 := by kernel_rfl
 i171 := by kernel_rfl
 i173 := by kernel_rfl
 i212 := by kernel_rfl
 i232 := by kernel_rfl
 i233 := by kernel_rfl
 m17 := by kernel_rfl
 m18 := by kernel_rfl
 m19 := by kernel_rfl }
open Go.RowKit Go.Sort Go.Lib in
theorem Tryz.internal_strconv_AppendUint_10 (B n u : Nat) (hu64 : u < 18446744073709551616) (sv : Value) (xs : List Value) (w : World) (hown : w.ownsRow B 5 1 sv n xs) (hBw : B ≤ w.heap.size) (hlim : n + 20 ≤ 140737488355328) (htab : Lib.TabIs Tryz.prog w "internal/strconv.uint64pow10" .u64 Lib.pow10Tab) :
 Calls Tryz.prog 148 #[sv, .int .u64 u, .int .i64 10] w fun e w' => ∃ v', e = .returned v' ∧ w'.ownsRow B 5 1 v' (n + (Lib.decDigits u).length) (xs ++ Lib.byteCells (Lib.decDigits u)) ∧ Below B w w' ∧ Lib.OthersKept 5 none w w' := Any.internal_strconv_AppendUint_10 Tryz.laysM288 B n u hu64 sv xs w hown hBw hlim htab
def Tryz.laysM176_ren : Go.Shelf.Ren := ⟨fun | 176 => 126 | 249 => 147 | 288 => 148 | 283 => 163 | 284 => 164 | 285 => 165 | 286 => 166 | 129 => 179 | 317 => 178 | 318 => 180 | 319 => 181 | 320 => 182 | 337 => 203 | 338 => 204 | n => n, fun | 37 => 128 | 2 => 2 | 3 => 3 | 53 => 22 | 4 => 4 | 9 => 9 | 171 => 252 | 0 => 0 | 173 => 254 | 212 => 280 | 51 => 259 | 5 => 5 | 20 => 20 | 213 => 281 | 46 => 258 | 232 => 315 | 233 => 316 | n => n, fun | 17 => 5 | 18 => 9 | 19 => 10 | n => n⟩
theorem Tryz.laysM176 : Go.Proofs.LaysM.n176 Tryz.prog Tryz.laysM176_ren := {
 mixed := by kernel_rfl
 f129 := Tryz.func179.trans (congrArg some (by kernel_rfl))
 f176 := Tryz.func126.trans (congrArg some (by kernel_rfl))
 f249 := Tryz.func147.trans (congrArg some (by kernel_rfl))
 f283 := Tryz.func163.trans (congrArg some (by kernel_rfl))
 f284 := Tryz.func164.trans (congrArg some (by kernel_rfl))
 f285 := Tryz.func165.trans (congrArg some (by kernel_rfl))
 f286 := Tryz.func166.trans (congrArg some (by kernel_rfl))
 f288 := Tryz.func148.trans (congrArg some (by kernel_rfl))
 f317 := Tryz.func178.trans (congrArg some (by kernel_rfl))
 f318 := Tryz.func180.trans (congrArg some (by kernel_rfl))
 f319 := Tryz.func181.trans (congrArg some (by kernel_rfl))
 f320 := Tryz.func182.trans (congrArg some (by kernel_rfl))
 f337 := Tryz.func203.trans (congrArg some (by kernel_rfl))
 f338 := Tryz.func204.trans (congrArg some (by kernel_rfl))
 t0 := Tryz.underlying0
 a0 := Tryz.isAgg0
 z0 := Tryz.sizeOf0
 v0 := Tryz.zeroValue0
 t2 := Tryz.underlying2
 a2 := Tryz.isAgg2
 z2 := Tryz.sizeOf2
 v2 := Tryz.zeroValue2
 t3 := Tryz.underlying3
 a3 := Tryz.isAgg3
 z3 := Tryz.sizeOf3
 v3 := Tryz.zeroValue3
 t4 := Tryz.underlying4
 a4 := Tryz.isAgg4
 z4 := Tryz.sizeOf4
 v4 := Tryz.zeroValue4
 t5 := Tryz.underlying5
 a5 := Tryz.isAgg5
 z5 := Tryz.sizeOf5
 v5 := Tryz.zeroValue5
 t9 := Tryz.underlying9
 a9 := Tryz.isAgg9
 z9 := Tryz.sizeOf9
 v9 := Tryz.zeroValue9
 t20 := Tryz.underlying20
 a20 := Tryz.isAgg20
 z20 := Tryz.sizeOf20
 v20 := Tryz.zeroValue20
 t37 := Tryz.underlying128
 a37 := Tryz.isAgg128
 z37 := Tryz.sizeOf128
 v37 := Tryz.zeroValue128
 t46 := Tryz.underlying258
 a46 := Tryz.isAgg258
 z46 := Tryz.sizeOf258
 v46 := Tryz.zeroValue258
 t51 := Tryz.underlying259
 a51 := Tryz.isAgg259
 z51 := Tryz.sizeOf259
 v51 := Tryz.zeroValue259
 t53 := Tryz.underlying22
 a53 := Tryz.isAgg22
 z53 := Tryz.sizeOf22
 v53 := Tryz.zeroValue22
 t171 := Tryz.underlying252
 a171 := Tryz.isAgg252
 z171 := Tryz.sizeOf252
 v171 := Tryz.zeroValue252
 t173 := Tryz.underlying254
 a173 := Tryz.isAgg254
 z173 := Tryz.sizeOf254
 v173 := Tryz.zeroValue254
 t212 := Tryz.underlying280
 a212 := Tryz.isAgg280
 z212 := Tryz.sizeOf280
 v212 := Tryz.zeroValue280
 t213 := Tryz.underlying281
 a213 := Tryz.isAgg281
 z213 := Tryz.sizeOf281
 t232 := Tryz.underlying315
 a232 := Tryz.isAgg315
 z232 := Tryz.sizeOf315
 v232 := Tryz.zeroValue315
 t233 := Tryz.underlying316
 a233 := Tryz.isAgg316
 z233 := Tryz.sizeOf316
 v233 := Tryz.zeroValue316
 g17 := by kernel_rfl
 g18 := by kernel_rfl
 g19 := by kernel_rfl
 i0 := by kernel_rfl
 i2 := by kernel_rfl
 i3 := by kernel_rfl
 i4 := by kernel_rfl
 i5 := by kernel_rfl
 i9 := by kernel_rfl
 i20 := by kernel_rfl
 i37 := by kernel_rfl
 i46 := by kernel_rfl
 i51 := by kernel_rfl
 i53 := by kernel_rfl
 i171 := by kernel_rfl
 i173 := by kernel_rfl
 i212 := by kernel_rfl
 i232 := by kernel_rfl
 i233 := by kernel_rfl
 m17 := by kernel_rfl
 m18 := by kernel_rfl
 m19 := by kernel_rfl }
open Go.RowKit Go.Sort Go.Lib in
theorem Tryz.strconv_AppendInt_10 (B n : Nat) (i : Int) (h0 : -9223372036854775808 ≤ i) (h1 : i ≤ 9223372036854775807) (sv : Value) (xs : List Value) (w : World) (hown : w.ownsRow B 5 1 sv n xs) (hBw : B ≤ w.heap.size) (hlim : n + 21 ≤ 140737488355328) (htab : Lib.TabBelow Tryz.prog B w "internal/strconv.uint64pow10" .u64 Lib.pow10Tab) :
 Calls Tryz.prog 126 #[sv, .int .i64 i, .int .i64 10] w fun e w' => ∃ v', e = .returned v' ∧ w'.ownsRow B 5 1 v' (n + (Lib.itoa i).length) (xs ++ Lib.byteCells (Lib.itoa i)) ∧ Below B w w' ∧ Lib.OthersKept 5 none w w' := Any.strconv_AppendInt_10 Tryz.laysM176 B n i h0 h1 sv xs w hown hBw hlim htab
open Go.RowKit Go.Lib in
open Go.RowKit Go.Lib in
open Go.RowKit in
def Tryz.laysNm216_ren : Go.Shelf.Ren := ⟨fun | 16 => 124 | n => n, fun | 24 => 25 | 9 => 9 | 4 => 4 | n => n, fun | n => n⟩
theorem Tryz.laysNm216 : Go.Proofs.Lays2.n16 Tryz.prog Tryz.laysNm216_ren := {
 mixed := by kernel_rfl
 f16 := Tryz.func124.trans (congrArg some (by kernel_rfl))
 t4 := Tryz.underlying4
 a4 := Tryz.isAgg4
 z4 := Tryz.sizeOf4
 v4 := Tryz.zeroValue4
 t9 := Tryz.underlying9
 a9 := Tryz.isAgg9
 z9 := Tryz.sizeOf9
 v9 := Tryz.zeroValue9
 t24 := Tryz.underlying25
 a24 := Tryz.isAgg25
 z24 := Tryz.sizeOf25
 v24 := Tryz.zeroValue25
 i9 := by kernel_rfl }
open Go.RowKit Go.Lib in
open Go.RowKit Go.Lib in
open Go.RowKit Go.Lib in
theorem Tryz.slices_Clone_string_zero (a : Addr) (c : Nat) (w : World) :
 Calls Tryz.prog 124 #[.slice (some a) 0 c] w fun e w' => ∃ v', e = .returned v' ∧ w'.ownsRow w.heap.size 9 1 v' 0 [] ∧ v' ≠ .slice none 0 0 ∧ Below w.heap.size w w' := Any.slices_Clone_string_zero Tryz.laysNm216 a c w
def Tryz.laysSlE041_f75_ren : Go.Shelf.Ren := ⟨fun | 41 => 75 | n => n, fun | 22 => 75 | 23 => 2 | 4 => 4 | n => n, fun | n => n⟩
theorem Tryz.laysSlE041_f75 : Go.Proofs.SlLaysE0.n41 Tryz.prog Tryz.laysSlE041_f75_ren := {
 mixed := by kernel_rfl
 f41 := ⟨Tryz.f75.name, by decide, Tryz.func75.trans (congrArg some (by kernel_rfl))⟩
 t4 := Tryz.underlying4
 a4 := Tryz.isAgg4
 z4 := Tryz.sizeOf4
 v4 := Tryz.zeroValue4
 t22 := Tryz.underlying75
 a22 := Tryz.isAgg75
 z22 := Tryz.sizeOf75
 v22 := Tryz.zeroValue75 }
open Go.RowKit Go.Lib in
theorem Tryz.slices_Clone_f75 (i0 : TypeInfo) (z : Value) (size bytes : Nat) (hi : Tryz.prog.info? 2 = some i0) (hz0 : i0.zero = some z) (hz1 : i0.size = size) (hz2 : i0.bytes = bytes) (hzs : z.cells.size = size) (hsz : 0 < size) (z23 : ∀ w, (Go.sizeOf 2).run Tryz.prog w = .ok size w) (b off n c : Nat) (news : List Value) (w : World) (hl : news.length = n * size) (hn : n ≤ maxLen) (hbig : n * bytes ≤ 140737488355328) (hc : ∀ j u, news[j]? = some u → w.cell? ⟨b, off + j, none⟩ = some u) (h1 : ∀ u ∈ news, u.oneCell' = true) :
 Calls Tryz.prog 75 #[.slice (some ⟨b, off, none⟩) n c] w fun e w' => ∃ v', e = .returned v' ∧ w'.ownsRow w.heap.size 2 size v' n news ∧ v' ≠ .slice none 0 0 ∧ Below w.heap.size w w' := AnyE.slices_Clone Tryz.laysSlE041_f75 i0 z size bytes hi hz0 hz1 hz2 hzs hsz z23 b off n c news w hl hn hbig hc h1
def Tryz.laysSlE041_f124_ren : Go.Shelf.Ren := ⟨fun | 41 => 124 | n => n, fun | 22 => 25 | 23 => 9 | 4 => 4 | n => n, fun | n => n⟩
theorem Tryz.laysSlE041_f124 : Go.Proofs.SlLaysE0.n41 Tryz.prog Tryz.laysSlE041_f124_ren := {
 mixed := by kernel_rfl
 f41 := ⟨Tryz.f124.name, by decide, Tryz.func124.trans (congrArg some (by kernel_rfl))⟩
 t4 := Tryz.underlying4
 a4 := Tryz.isAgg4
 z4 := Tryz.sizeOf4
 v4 := Tryz.zeroValue4
 t22 := Tryz.underlying25
 a22 := Tryz.isAgg25
 z22 := Tryz.sizeOf25
 v22 := Tryz.zeroValue25 }
open Go.RowKit Go.Lib in
theorem Tryz.slices_Clone_f124 (i0 : TypeInfo) (z : Value) (size bytes : Nat) (hi : Tryz.prog.info? 9 = some i0) (hz0 : i0.zero = some z) (hz1 : i0.size = size) (hz2 : i0.bytes = bytes) (hzs : z.cells.size = size) (hsz : 0 < size) (z23 : ∀ w, (Go.sizeOf 9).run Tryz.prog w = .ok size w) (b off n c : Nat) (news : List Value) (w : World) (hl : news.length = n * size) (hn : n ≤ maxLen) (hbig : n * bytes ≤ 140737488355328) (hc : ∀ j u, news[j]? = some u → w.cell? ⟨b, off + j, none⟩ = some u) (h1 : ∀ u ∈ news, u.oneCell' = true) :
 Calls Tryz.prog 124 #[.slice (some ⟨b, off, none⟩) n c] w fun e w' => ∃ v', e = .returned v' ∧ w'.ownsRow w.heap.size 9 size v' n news ∧ v' ≠ .slice none 0 0 ∧ Below w.heap.size w w' := AnyE.slices_Clone Tryz.laysSlE041_f124 i0 z size bytes hi hz0 hz1 hz2 hzs hsz z23 b off n c news w hl hn hbig hc h1
open Go.RowKit Go.Lib in
theorem Tryz.slices_Clone_nil_f75 (n c : Nat) (w : World) :
 Calls Tryz.prog 75 #[.slice none n c] w fun e w' => e = .returned (.slice none 0 0) ∧ w' = w := AnyE.slices_Clone_nil Tryz.laysSlE041_f75 n c w
open Go.RowKit Go.Lib in
theorem Tryz.slices_Clone_nil_f124 (n c : Nat) (w : World) :
 Calls Tryz.prog 124 #[.slice none n c] w fun e w' => e = .returned (.slice none 0 0) ∧ w' = w := AnyE.slices_Clone_nil Tryz.laysSlE041_f124 n c w
end Go.Proofs
namespace Go.Proofs.YtcepdjlknalmnaaGreatDoor
open Go.RowKit
set_option linter.unusedSimpArgs false
set_option linter.unusedVariables false
theorem Nw.bytes (w : World) (e : TypeId) (s : ByteArray) : Nw w (Lib.bytesWorld w e s) := by
 refine ⟨?_, ?_, ?_, ?_, ?_⟩
 · unfold Lib.bytesWorld World.freeze; split <;> rfl
 · unfold Lib.bytesWorld World.freeze; split <;> rfl
 · unfold Lib.bytesWorld World.freeze; split <;> rfl
 · unfold Lib.bytesWorld World.freeze; split <;> simp
 · intro k hk
   unfold Lib.bytesWorld World.freeze
   split
   · exact ((Nw.refl w).drew.alloc _).block k hk
   · show (Array.modify _ _ _)[k]? = _
     rw [Array.getElem?_modify]
     rw [if_neg (by simp; omega)]
     exact ((Nw.refl w).drew.alloc _).block k hk
theorem u8_of {d : Nat} (h : d < 10) : (UInt8.ofNat (48 + d)).toNat = 48 + d := by
 simp only [UInt8.toNat_ofNat']; omega
theorem dec_digit (u : Nat) : ∀ c ∈ Lib.decDigits u, 48 ≤ c.toNat ∧ c.toNat ≤ 57 := by
 induction u using Nat.strongRecOn with
 | _ u ih =>
  intro c hc
  rw [Lib.decDigits] at hc
  split at hc
  · rename_i h1
    rw [List.mem_singleton.1 hc, u8_of h1]; omega
  · rename_i h1
    rcases List.mem_append.1 hc with hc | hc
    · exact ih (u / 10) (by omega) c hc
    · have := Nat.mod_lt u (by decide : 0 < 10)
      rw [List.mem_singleton.1 hc, u8_of this]; omega
end Go.Proofs.YtcepdjlknalmnaaGreatDoor
