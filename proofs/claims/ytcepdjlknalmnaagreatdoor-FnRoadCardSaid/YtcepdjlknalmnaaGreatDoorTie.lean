/-
  DERIVED. GIVEN WITH THE SEED: THE PROGRAM's TIES (one call each: nine closed facts by the kernel) AND EACH ROW's TIE, after the 31st guide's Derived/Test/Toyas{Tie, Card}.lean. No idea stands in it: it is a product of the set-up. Laid BY PROGRAM, IN A SANDBOX (cutbox-door.mjs). By AI agents, Wed Nov 11 2026. No macro, syntax, notation, axiom, sorry.
-/
import Derived.Test.YtcepdjlknalmnaaGreatDoorRows
import Derived.LaidByTextLater
import Derived.SevenTiedAt
import Derived.LaidSub
import Derived.LaidOnce
namespace Go.Proofs.YtcepdjlknalmnaaGreatDoor
open Go
set_option maxRecDepth 100000
theorem seatTie1 : Tryz.prog.laidByTextLater [("math/bits.deBruijn32tab", Rows.laid_math_bits_deBruijn32tab), ("math/bits.deBruijn64tab", Rows.laid_math_bits_deBruijn64tab), ("internal/strconv.uint64pow10", Rows.laid_internal_strconv_uint64pow10), ("strconv.ErrRange", Rows.laid_strconv_ErrRange), ("strconv.ErrSyntax", Rows.laid_strconv_ErrSyntax), ("io.EOF", Rows.laid_io_EOF), ("pionsdp/pub/sdp.errDocumentStart", Rows.laid_pionsdp_pub_sdp_errDocumentStart), ("pionsdp/pub/sdp.errSDPInvalidSyntax", Rows.laid_pionsdp_pub_sdp_errSDPInvalidSyntax), ("pionsdp/pub/sdp.errSDPInvalidNumericValue", Rows.laid_pionsdp_pub_sdp_errSDPInvalidNumericValue), ("pionsdp/pub/sdp.errSDPInvalidValue", Rows.laid_pionsdp_pub_sdp_errSDPInvalidValue), ("pionsdp/pub/sdp.errSDPInvalidPortValue", Rows.laid_pionsdp_pub_sdp_errSDPInvalidPortValue), ("pionsdp/pub/sdp.errFieldMissing", Rows.laid_pionsdp_pub_sdp_errFieldMissing)] [.data, .data, .data, .sentinel, .sentinel, .sentinel, .sentinel, .sentinel, .sentinel, .sentinel, .sentinel, .sentinel] true :=
  Program.laidByTextLater_by_one 229 8 257 (by kernel_rfl) (by kernel_rfl) (by kernel_rfl) (by kernel_rfl) (by kernel_rfl) (by kernel_rfl) (fun _ _ => by kernel_rfl)
theorem seatTie2 : Tryz.prog.laidByTextLater [("math/bits.deBruijn32tab", Rows.laid_math_bits_deBruijn32tab), ("math/bits.deBruijn64tab", Rows.laid_math_bits_deBruijn64tab), ("internal/strconv.uint64pow10", Rows.laid_internal_strconv_uint64pow10), ("unicode/utf8.acceptRanges", Rows.laid_unicode_utf8_acceptRanges), ("strconv.ErrRange", Rows.laid_strconv_ErrRange), ("strconv.ErrSyntax", Rows.laid_strconv_ErrSyntax), ("io.EOF", Rows.laid_io_EOF), ("unicode.White_Space", Rows.laid_unicode_White_Space), ("strings.asciiSpace", Rows.laid_strings_asciiSpace), ("pionsdp/pub/sdp.errDocumentStart", Rows.laid_pionsdp_pub_sdp_errDocumentStart), ("pionsdp/pub/sdp.errSDPInvalidSyntax", Rows.laid_pionsdp_pub_sdp_errSDPInvalidSyntax), ("pionsdp/pub/sdp.errSDPInvalidNumericValue", Rows.laid_pionsdp_pub_sdp_errSDPInvalidNumericValue), ("pionsdp/pub/sdp.errSDPInvalidValue", Rows.laid_pionsdp_pub_sdp_errSDPInvalidValue), ("pionsdp/pub/sdp.errSDPInvalidPortValue", Rows.laid_pionsdp_pub_sdp_errSDPInvalidPortValue), ("pionsdp/pub/sdp.errFieldMissing", Rows.laid_pionsdp_pub_sdp_errFieldMissing)] [.data, .data, .data, .data, .sentinel, .sentinel, .sentinel, .listed, .data, .sentinel, .sentinel, .sentinel, .sentinel, .sentinel, .sentinel] true :=
  Program.laidByTextLater_by_one 229 8 257 (by kernel_rfl) (by kernel_rfl) (by kernel_rfl) (by kernel_rfl) (by kernel_rfl) (by kernel_rfl) (fun _ _ => by kernel_rfl)
theorem pin_laid_unicode_utf8_first : Tryz.pinned.checked.prog.pinnedFits "unicode/utf8.first" = true := by kernel_rfl
theorem noOwnUnsafe : Tryz.pinned.checked.prog.headLifts.contains "ownunsafe" = false := by kernel_rfl
theorem tie : Tryz.prog.laidByTextLater [("math/bits.deBruijn32tab", Rows.laid_math_bits_deBruijn32tab), ("math/bits.deBruijn64tab", Rows.laid_math_bits_deBruijn64tab), ("internal/strconv.uint64pow10", Rows.laid_internal_strconv_uint64pow10), ("strconv.ErrRange", Rows.laid_strconv_ErrRange), ("strconv.ErrSyntax", Rows.laid_strconv_ErrSyntax), ("io.EOF", Rows.laid_io_EOF), ("pionsdp/pub/sdp.errDocumentStart", Rows.laid_pionsdp_pub_sdp_errDocumentStart), ("pionsdp/pub/sdp.errSDPInvalidSyntax", Rows.laid_pionsdp_pub_sdp_errSDPInvalidSyntax), ("pionsdp/pub/sdp.errSDPInvalidNumericValue", Rows.laid_pionsdp_pub_sdp_errSDPInvalidNumericValue), ("pionsdp/pub/sdp.errSDPInvalidValue", Rows.laid_pionsdp_pub_sdp_errSDPInvalidValue), ("pionsdp/pub/sdp.errSDPInvalidPortValue", Rows.laid_pionsdp_pub_sdp_errSDPInvalidPortValue), ("pionsdp/pub/sdp.errFieldMissing", Rows.laid_pionsdp_pub_sdp_errFieldMissing)] [.data, .data, .data, .sentinel, .sentinel, .sentinel, .sentinel, .sentinel, .sentinel, .sentinel, .sentinel, .sentinel] true :=
  Program.laidByTextLater.sub seatTie1 ["math/bits.deBruijn32tab", "math/bits.deBruijn64tab", "internal/strconv.uint64pow10", "strconv.ErrRange", "strconv.ErrSyntax", "io.EOF", "pionsdp/pub/sdp.errDocumentStart", "pionsdp/pub/sdp.errSDPInvalidSyntax", "pionsdp/pub/sdp.errSDPInvalidNumericValue", "pionsdp/pub/sdp.errSDPInvalidValue", "pionsdp/pub/sdp.errSDPInvalidPortValue", "pionsdp/pub/sdp.errFieldMissing"] (by kernel_rfl) (by kernel_rfl)
theorem fnUnknown_row_tie : Rows.fnUnknownRow.laidByTextAt .later Tryz.pinned [.data, .data, .data, .sentinel, .sentinel, .sentinel, .sentinel, .sentinel, .sentinel, .sentinel, .sentinel, .sentinel] true :=
  OpenClaim.laidByTextAt_later rfl rfl tie noOwnUnsafe
theorem fnUnmarshal_row_tie : Rows.fnUnmarshalRow.laidByTextAt .later Tryz.pinned [.data, .data, .data, .sentinel, .sentinel, .sentinel, .sentinel, .sentinel, .sentinel, .sentinel, .sentinel, .sentinel] true :=
  OpenClaim.laidByTextAt_later rfl rfl tie noOwnUnsafe
theorem fnRoad_row_tie : Rows.fnRoadRow.laidByTextAt .later Tryz.pinned [.data, .data, .data, .sentinel, .sentinel, .sentinel, .sentinel, .sentinel, .sentinel, .sentinel, .sentinel, .sentinel] true :=
  OpenClaim.laidByTextAt_later rfl rfl tie noOwnUnsafe
theorem fnMarshal_row_tie : Rows.fnMarshalRow.laidByTextAt .later Tryz.pinned [.data, .data, .data, .sentinel, .sentinel, .sentinel, .sentinel, .sentinel, .sentinel, .sentinel, .sentinel, .sentinel] true :=
  OpenClaim.laidByTextAt_later rfl rfl tie noOwnUnsafe
theorem fits2 : Tryz.pinned.checked.prog.listedFits [("math/bits.deBruijn32tab", Rows.laid_math_bits_deBruijn32tab), ("math/bits.deBruijn64tab", Rows.laid_math_bits_deBruijn64tab), ("internal/strconv.uint64pow10", Rows.laid_internal_strconv_uint64pow10), ("unicode/utf8.acceptRanges", Rows.laid_unicode_utf8_acceptRanges), ("strconv.ErrRange", Rows.laid_strconv_ErrRange), ("strconv.ErrSyntax", Rows.laid_strconv_ErrSyntax), ("io.EOF", Rows.laid_io_EOF), ("unicode.White_Space", Rows.laid_unicode_White_Space), ("strings.asciiSpace", Rows.laid_strings_asciiSpace), ("pionsdp/pub/sdp.errDocumentStart", Rows.laid_pionsdp_pub_sdp_errDocumentStart), ("pionsdp/pub/sdp.errSDPInvalidSyntax", Rows.laid_pionsdp_pub_sdp_errSDPInvalidSyntax), ("pionsdp/pub/sdp.errSDPInvalidNumericValue", Rows.laid_pionsdp_pub_sdp_errSDPInvalidNumericValue), ("pionsdp/pub/sdp.errSDPInvalidValue", Rows.laid_pionsdp_pub_sdp_errSDPInvalidValue), ("pionsdp/pub/sdp.errSDPInvalidPortValue", Rows.laid_pionsdp_pub_sdp_errSDPInvalidPortValue), ("pionsdp/pub/sdp.errFieldMissing", Rows.laid_pionsdp_pub_sdp_errFieldMissing), ("unicode/utf8.first", Rows.laid_unicode_utf8_first)] = true := by
  unfold Program.listedFits
  rw [noOwnUnsafe]
  kernel_rfl
theorem tie2 : Tryz.prog.laidByTextLater [("math/bits.deBruijn32tab", Rows.laid_math_bits_deBruijn32tab), ("math/bits.deBruijn64tab", Rows.laid_math_bits_deBruijn64tab), ("internal/strconv.uint64pow10", Rows.laid_internal_strconv_uint64pow10), ("unicode/utf8.acceptRanges", Rows.laid_unicode_utf8_acceptRanges), ("strconv.ErrRange", Rows.laid_strconv_ErrRange), ("strconv.ErrSyntax", Rows.laid_strconv_ErrSyntax), ("io.EOF", Rows.laid_io_EOF), ("unicode.White_Space", Rows.laid_unicode_White_Space), ("strings.asciiSpace", Rows.laid_strings_asciiSpace), ("pionsdp/pub/sdp.errDocumentStart", Rows.laid_pionsdp_pub_sdp_errDocumentStart), ("pionsdp/pub/sdp.errSDPInvalidSyntax", Rows.laid_pionsdp_pub_sdp_errSDPInvalidSyntax), ("pionsdp/pub/sdp.errSDPInvalidNumericValue", Rows.laid_pionsdp_pub_sdp_errSDPInvalidNumericValue), ("pionsdp/pub/sdp.errSDPInvalidValue", Rows.laid_pionsdp_pub_sdp_errSDPInvalidValue), ("pionsdp/pub/sdp.errSDPInvalidPortValue", Rows.laid_pionsdp_pub_sdp_errSDPInvalidPortValue), ("pionsdp/pub/sdp.errFieldMissing", Rows.laid_pionsdp_pub_sdp_errFieldMissing)] [.data, .data, .data, .data, .sentinel, .sentinel, .sentinel, .listed, .data, .sentinel, .sentinel, .sentinel, .sentinel, .sentinel, .sentinel] true :=
  Program.laidByTextLater.sub seatTie2 ["math/bits.deBruijn32tab", "math/bits.deBruijn64tab", "internal/strconv.uint64pow10", "unicode/utf8.acceptRanges", "strconv.ErrRange", "strconv.ErrSyntax", "io.EOF", "unicode.White_Space", "strings.asciiSpace", "pionsdp/pub/sdp.errDocumentStart", "pionsdp/pub/sdp.errSDPInvalidSyntax", "pionsdp/pub/sdp.errSDPInvalidNumericValue", "pionsdp/pub/sdp.errSDPInvalidValue", "pionsdp/pub/sdp.errSDPInvalidPortValue", "pionsdp/pub/sdp.errFieldMissing"] (by kernel_rfl) (by kernel_rfl)
theorem fnFits_row_tie : Rows.fnFitsRow.laidByTextAt .later Tryz.pinned [.data, .data, .data, .data, .sentinel, .sentinel, .sentinel, .listed, .data, .sentinel, .sentinel, .sentinel, .sentinel, .sentinel, .sentinel, .pinned] true :=
  OpenClaim.laidByTextAt_pinned rfl rfl tie2 rfl rfl rfl rfl (fun y hy _e => by
    simp only [Rows.fnFitsRow, List.zip_cons_cons, List.zip_nil_right, List.mem_cons, List.mem_nil_iff, or_false] at hy
    rcases hy with rfl | rfl | rfl | rfl | rfl | rfl | rfl | rfl | rfl | rfl | rfl | rfl | rfl | rfl | rfl | rfl
    · cases _e
    · cases _e
    · cases _e
    · cases _e
    · cases _e
    · cases _e
    · cases _e
    · cases _e
    · cases _e
    · cases _e
    · cases _e
    · cases _e
    · cases _e
    · cases _e
    · cases _e
    · exact ⟨pin_laid_unicode_utf8_first, by kernel_rfl⟩) fits2
theorem fnUnknownUpto_row_tie : Rows.fnUnknownUptoRow.laidByTextAt .later Tryz.pinned [.data, .data, .data, .sentinel, .sentinel, .sentinel, .sentinel, .sentinel, .sentinel, .sentinel, .sentinel, .sentinel] true :=
  OpenClaim.laidByTextAt_later rfl rfl tie noOwnUnsafe
theorem fnUnmarshalUpto_row_tie : Rows.fnUnmarshalUptoRow.laidByTextAt .later Tryz.pinned [.data, .data, .data, .sentinel, .sentinel, .sentinel, .sentinel, .sentinel, .sentinel, .sentinel, .sentinel, .sentinel] true :=
  OpenClaim.laidByTextAt_later rfl rfl tie noOwnUnsafe
theorem fnRoadUpto_row_tie : Rows.fnRoadUptoRow.laidByTextAt .later Tryz.pinned [.data, .data, .data, .sentinel, .sentinel, .sentinel, .sentinel, .sentinel, .sentinel, .sentinel, .sentinel, .sentinel] true :=
  OpenClaim.laidByTextAt_later rfl rfl tie noOwnUnsafe
theorem fnMarshalUpto_row_tie : Rows.fnMarshalUptoRow.laidByTextAt .later Tryz.pinned [.data, .data, .data, .sentinel, .sentinel, .sentinel, .sentinel, .sentinel, .sentinel, .sentinel, .sentinel, .sentinel] true :=
  OpenClaim.laidByTextAt_later rfl rfl tie noOwnUnsafe
theorem fnFitsUpto_row_tie : Rows.fnFitsUptoRow.laidByTextAt .later Tryz.pinned [.data, .data, .data, .data, .sentinel, .sentinel, .sentinel, .listed, .data, .sentinel, .sentinel, .sentinel, .sentinel, .sentinel, .sentinel, .pinned] true :=
  OpenClaim.laidByTextAt_pinned rfl rfl tie2 rfl rfl rfl rfl (fun y hy _e => by
    simp only [Rows.fnFitsUptoRow, List.zip_cons_cons, List.zip_nil_right, List.mem_cons, List.mem_nil_iff, or_false] at hy
    rcases hy with rfl | rfl | rfl | rfl | rfl | rfl | rfl | rfl | rfl | rfl | rfl | rfl | rfl | rfl | rfl | rfl
    · cases _e
    · cases _e
    · cases _e
    · cases _e
    · cases _e
    · cases _e
    · cases _e
    · cases _e
    · cases _e
    · cases _e
    · cases _e
    · cases _e
    · cases _e
    · cases _e
    · cases _e
    · exact ⟨pin_laid_unicode_utf8_first, by kernel_rfl⟩) fits2
end Go.Proofs.YtcepdjlknalmnaaGreatDoor
