/-
  DERIVED. GIVEN WITH THE SEED: THE PROGRAM's TIES (one call each: nine closed facts by the kernel) AND EACH ROW's TIE, after the 31st guide's Derived/Test/Toyas{Tie, Card}.lean. No idea stands in it: it is a product of the set-up. Laid BY PROGRAM, IN A SANDBOX (cutbox-door.mjs). By AI agents, Wed Nov 11 2026. No macro, syntax, notation, axiom, sorry.
-/
import Derived.Test.YtokkphocaloelaaGreatDoorRows
import Derived.LaidByTextLater
import Derived.SevenTiedAt
import Derived.LaidSub
import Derived.LaidOnce
namespace Go.Proofs.YtokkphocaloelaaGreatDoor
open Go
set_option maxRecDepth 100000
theorem seatTie1 : Tryz.prog.laidByTextLater [("math/bits.deBruijn32tab", Rows.laid_math_bits_deBruijn32tab), ("math/bits.deBruijn64tab", Rows.laid_math_bits_deBruijn64tab), ("internal/strconv.uint64pow10", Rows.laid_internal_strconv_uint64pow10), ("unicode/utf8.acceptRanges", Rows.laid_unicode_utf8_acceptRanges), ("io.ErrShortBuffer", Rows.laid_io_ErrShortBuffer), ("io.EOF", Rows.laid_io_EOF), ("io.ErrUnexpectedEOF", Rows.laid_io_ErrUnexpectedEOF), ("pub-carronade/pub/opus/pkg/oggreader.errNilStream", Rows.laid_pub_carronade_pub_opus_pkg_oggreader_errNilStream), ("pub-carronade/pub/opus/pkg/oggreader.errBadIDPageSignature", Rows.laid_pub_carronade_pub_opus_pkg_oggreader_errBadIDPageSignature), ("pub-carronade/pub/opus/pkg/oggreader.errBadIDPageType", Rows.laid_pub_carronade_pub_opus_pkg_oggreader_errBadIDPageType), ("pub-carronade/pub/opus/pkg/oggreader.errBadIDPageLength", Rows.laid_pub_carronade_pub_opus_pkg_oggreader_errBadIDPageLength), ("pub-carronade/pub/opus/pkg/oggreader.errBadIDPagePayloadSignature", Rows.laid_pub_carronade_pub_opus_pkg_oggreader_errBadIDPagePayloadSignature), ("pub-carronade/pub/opus/pkg/oggreader.errShortPageHeader", Rows.laid_pub_carronade_pub_opus_pkg_oggreader_errShortPageHeader), ("pub-carronade/pub/opus/pkg/oggreader.errChecksumMismatch", Rows.laid_pub_carronade_pub_opus_pkg_oggreader_errChecksumMismatch)] [.data, .data, .data, .data, .sentinel, .sentinel, .sentinel, .sentinel, .sentinel, .sentinel, .sentinel, .sentinel, .sentinel, .sentinel] true :=
  Program.laidByTextLater_by_one 224 8 65 (by kernel_rfl) (by kernel_rfl) (by kernel_rfl) (by kernel_rfl) (by kernel_rfl) (by kernel_rfl) (fun _ _ => by kernel_rfl)
theorem pin_laid_strconv_isGraphic : Tryz.pinned.checked.prog.pinnedFits "strconv.isGraphic" = true := by kernel_rfl
theorem pin_laid_strconv_isNotPrint16 : Tryz.pinned.checked.prog.pinnedFits "strconv.isNotPrint16" = true := by kernel_rfl
theorem pin_laid_strconv_isNotPrint32 : Tryz.pinned.checked.prog.pinnedFits "strconv.isNotPrint32" = true := by kernel_rfl
theorem pin_laid_strconv_isPrint16 : Tryz.pinned.checked.prog.pinnedFits "strconv.isPrint16" = true := by kernel_rfl
theorem pin_laid_strconv_isPrint32 : Tryz.pinned.checked.prog.pinnedFits "strconv.isPrint32" = true := by kernel_rfl
theorem pin_laid_unicode_utf8_first : Tryz.pinned.checked.prog.pinnedFits "unicode/utf8.first" = true := by kernel_rfl
theorem noOwnUnsafe : Tryz.pinned.checked.prog.headLifts.contains "ownunsafe" = false := by kernel_rfl
theorem tie : Tryz.prog.laidByTextLater [("math/bits.deBruijn32tab", Rows.laid_math_bits_deBruijn32tab), ("math/bits.deBruijn64tab", Rows.laid_math_bits_deBruijn64tab), ("internal/strconv.uint64pow10", Rows.laid_internal_strconv_uint64pow10), ("io.ErrShortBuffer", Rows.laid_io_ErrShortBuffer), ("io.EOF", Rows.laid_io_EOF), ("io.ErrUnexpectedEOF", Rows.laid_io_ErrUnexpectedEOF), ("pub-carronade/pub/opus/pkg/oggreader.errNilStream", Rows.laid_pub_carronade_pub_opus_pkg_oggreader_errNilStream), ("pub-carronade/pub/opus/pkg/oggreader.errBadIDPageSignature", Rows.laid_pub_carronade_pub_opus_pkg_oggreader_errBadIDPageSignature), ("pub-carronade/pub/opus/pkg/oggreader.errBadIDPageType", Rows.laid_pub_carronade_pub_opus_pkg_oggreader_errBadIDPageType), ("pub-carronade/pub/opus/pkg/oggreader.errBadIDPageLength", Rows.laid_pub_carronade_pub_opus_pkg_oggreader_errBadIDPageLength), ("pub-carronade/pub/opus/pkg/oggreader.errBadIDPagePayloadSignature", Rows.laid_pub_carronade_pub_opus_pkg_oggreader_errBadIDPagePayloadSignature), ("pub-carronade/pub/opus/pkg/oggreader.errShortPageHeader", Rows.laid_pub_carronade_pub_opus_pkg_oggreader_errShortPageHeader), ("pub-carronade/pub/opus/pkg/oggreader.errChecksumMismatch", Rows.laid_pub_carronade_pub_opus_pkg_oggreader_errChecksumMismatch)] [.data, .data, .data, .sentinel, .sentinel, .sentinel, .sentinel, .sentinel, .sentinel, .sentinel, .sentinel, .sentinel, .sentinel] true :=
  Program.laidByTextLater.sub seatTie1 ["math/bits.deBruijn32tab", "math/bits.deBruijn64tab", "internal/strconv.uint64pow10", "io.ErrShortBuffer", "io.EOF", "io.ErrUnexpectedEOF", "pub-carronade/pub/opus/pkg/oggreader.errNilStream", "pub-carronade/pub/opus/pkg/oggreader.errBadIDPageSignature", "pub-carronade/pub/opus/pkg/oggreader.errBadIDPageType", "pub-carronade/pub/opus/pkg/oggreader.errBadIDPageLength", "pub-carronade/pub/opus/pkg/oggreader.errBadIDPagePayloadSignature", "pub-carronade/pub/opus/pkg/oggreader.errShortPageHeader", "pub-carronade/pub/opus/pkg/oggreader.errChecksumMismatch"] (by kernel_rfl) (by kernel_rfl)
theorem fnOggBack_row_tie : Rows.fnOggBackRow.laidByTextAt .later Tryz.pinned [.data, .data, .data, .sentinel, .sentinel, .sentinel, .sentinel, .sentinel, .sentinel, .sentinel, .sentinel, .sentinel, .sentinel] true :=
  OpenClaim.laidByTextAt_later rfl rfl tie noOwnUnsafe
theorem fnOggCut_row_tie : Rows.fnOggCutRow.laidByTextAt .later Tryz.pinned [.data, .data, .data, .sentinel, .sentinel, .sentinel, .sentinel, .sentinel, .sentinel, .sentinel, .sentinel, .sentinel, .sentinel] true :=
  OpenClaim.laidByTextAt_later rfl rfl tie noOwnUnsafe
theorem fnOggPages_row_tie : Rows.fnOggPagesRow.laidByTextAt .later Tryz.pinned [.data, .data, .data, .sentinel, .sentinel, .sentinel, .sentinel, .sentinel, .sentinel, .sentinel, .sentinel, .sentinel, .sentinel] true :=
  OpenClaim.laidByTextAt_later rfl rfl tie noOwnUnsafe
theorem fits2 : Tryz.pinned.checked.prog.listedFits [("math/bits.deBruijn32tab", Rows.laid_math_bits_deBruijn32tab), ("math/bits.deBruijn64tab", Rows.laid_math_bits_deBruijn64tab), ("internal/strconv.uint64pow10", Rows.laid_internal_strconv_uint64pow10), ("unicode/utf8.acceptRanges", Rows.laid_unicode_utf8_acceptRanges), ("io.ErrShortBuffer", Rows.laid_io_ErrShortBuffer), ("io.EOF", Rows.laid_io_EOF), ("io.ErrUnexpectedEOF", Rows.laid_io_ErrUnexpectedEOF), ("pub-carronade/pub/opus/pkg/oggreader.errNilStream", Rows.laid_pub_carronade_pub_opus_pkg_oggreader_errNilStream), ("pub-carronade/pub/opus/pkg/oggreader.errBadIDPageSignature", Rows.laid_pub_carronade_pub_opus_pkg_oggreader_errBadIDPageSignature), ("pub-carronade/pub/opus/pkg/oggreader.errBadIDPageType", Rows.laid_pub_carronade_pub_opus_pkg_oggreader_errBadIDPageType), ("pub-carronade/pub/opus/pkg/oggreader.errBadIDPageLength", Rows.laid_pub_carronade_pub_opus_pkg_oggreader_errBadIDPageLength), ("pub-carronade/pub/opus/pkg/oggreader.errBadIDPagePayloadSignature", Rows.laid_pub_carronade_pub_opus_pkg_oggreader_errBadIDPagePayloadSignature), ("pub-carronade/pub/opus/pkg/oggreader.errShortPageHeader", Rows.laid_pub_carronade_pub_opus_pkg_oggreader_errShortPageHeader), ("pub-carronade/pub/opus/pkg/oggreader.errChecksumMismatch", Rows.laid_pub_carronade_pub_opus_pkg_oggreader_errChecksumMismatch), ("strconv.isGraphic", Rows.laid_strconv_isGraphic), ("strconv.isNotPrint16", Rows.laid_strconv_isNotPrint16), ("strconv.isNotPrint32", Rows.laid_strconv_isNotPrint32), ("strconv.isPrint16", Rows.laid_strconv_isPrint16), ("strconv.isPrint32", Rows.laid_strconv_isPrint32), ("unicode/utf8.first", Rows.laid_unicode_utf8_first)] = true := by
  unfold Program.listedFits
  rw [noOwnUnsafe]
  kernel_rfl
theorem tie2 : Tryz.prog.laidByTextLater [("math/bits.deBruijn32tab", Rows.laid_math_bits_deBruijn32tab), ("math/bits.deBruijn64tab", Rows.laid_math_bits_deBruijn64tab), ("internal/strconv.uint64pow10", Rows.laid_internal_strconv_uint64pow10), ("unicode/utf8.acceptRanges", Rows.laid_unicode_utf8_acceptRanges), ("io.ErrShortBuffer", Rows.laid_io_ErrShortBuffer), ("io.EOF", Rows.laid_io_EOF), ("io.ErrUnexpectedEOF", Rows.laid_io_ErrUnexpectedEOF), ("pub-carronade/pub/opus/pkg/oggreader.errNilStream", Rows.laid_pub_carronade_pub_opus_pkg_oggreader_errNilStream), ("pub-carronade/pub/opus/pkg/oggreader.errBadIDPageSignature", Rows.laid_pub_carronade_pub_opus_pkg_oggreader_errBadIDPageSignature), ("pub-carronade/pub/opus/pkg/oggreader.errBadIDPageType", Rows.laid_pub_carronade_pub_opus_pkg_oggreader_errBadIDPageType), ("pub-carronade/pub/opus/pkg/oggreader.errBadIDPageLength", Rows.laid_pub_carronade_pub_opus_pkg_oggreader_errBadIDPageLength), ("pub-carronade/pub/opus/pkg/oggreader.errBadIDPagePayloadSignature", Rows.laid_pub_carronade_pub_opus_pkg_oggreader_errBadIDPagePayloadSignature), ("pub-carronade/pub/opus/pkg/oggreader.errShortPageHeader", Rows.laid_pub_carronade_pub_opus_pkg_oggreader_errShortPageHeader), ("pub-carronade/pub/opus/pkg/oggreader.errChecksumMismatch", Rows.laid_pub_carronade_pub_opus_pkg_oggreader_errChecksumMismatch)] [.data, .data, .data, .data, .sentinel, .sentinel, .sentinel, .sentinel, .sentinel, .sentinel, .sentinel, .sentinel, .sentinel, .sentinel] true :=
  Program.laidByTextLater.sub seatTie1 ["math/bits.deBruijn32tab", "math/bits.deBruijn64tab", "internal/strconv.uint64pow10", "unicode/utf8.acceptRanges", "io.ErrShortBuffer", "io.EOF", "io.ErrUnexpectedEOF", "pub-carronade/pub/opus/pkg/oggreader.errNilStream", "pub-carronade/pub/opus/pkg/oggreader.errBadIDPageSignature", "pub-carronade/pub/opus/pkg/oggreader.errBadIDPageType", "pub-carronade/pub/opus/pkg/oggreader.errBadIDPageLength", "pub-carronade/pub/opus/pkg/oggreader.errBadIDPagePayloadSignature", "pub-carronade/pub/opus/pkg/oggreader.errShortPageHeader", "pub-carronade/pub/opus/pkg/oggreader.errChecksumMismatch"] (by kernel_rfl) (by kernel_rfl)
theorem fnHead_row_tie : Rows.fnHeadRow.laidByTextAt .later Tryz.pinned [.data, .data, .data, .data, .sentinel, .sentinel, .sentinel, .sentinel, .sentinel, .sentinel, .sentinel, .sentinel, .sentinel, .sentinel, .pinned, .pinned, .pinned, .pinned, .pinned, .pinned] true :=
  OpenClaim.laidByTextAt_pinned rfl rfl tie2 rfl rfl rfl rfl (fun y hy _e => by
    simp only [Rows.fnHeadRow, List.zip_cons_cons, List.zip_nil_right, List.mem_cons, List.mem_nil_iff, or_false] at hy
    rcases hy with rfl | rfl | rfl | rfl | rfl | rfl | rfl | rfl | rfl | rfl | rfl | rfl | rfl | rfl | rfl | rfl | rfl | rfl | rfl | rfl
    · cases _e
    · cases _e
    · cases _e
    · cases _e
    · cases _e
    · cases _e
    · cases _e
    · cases _e
    · cases _e
    · cases _e
    · cases _e
    · cases _e
    · cases _e
    · cases _e
    · exact ⟨pin_laid_strconv_isGraphic, by kernel_rfl⟩
    · exact ⟨pin_laid_strconv_isNotPrint16, by kernel_rfl⟩
    · exact ⟨pin_laid_strconv_isNotPrint32, by kernel_rfl⟩
    · exact ⟨pin_laid_strconv_isPrint16, by kernel_rfl⟩
    · exact ⟨pin_laid_strconv_isPrint32, by kernel_rfl⟩
    · exact ⟨pin_laid_unicode_utf8_first, by kernel_rfl⟩) fits2
theorem fnHeadAny_row_tie : Rows.fnHeadAnyRow.laidByTextAt .later Tryz.pinned [.data, .data, .data, .data, .sentinel, .sentinel, .sentinel, .sentinel, .sentinel, .sentinel, .sentinel, .sentinel, .sentinel, .sentinel, .pinned, .pinned, .pinned, .pinned, .pinned, .pinned] true :=
  OpenClaim.laidByTextAt_pinned rfl rfl tie2 rfl rfl rfl rfl (fun y hy _e => by
    simp only [Rows.fnHeadAnyRow, List.zip_cons_cons, List.zip_nil_right, List.mem_cons, List.mem_nil_iff, or_false] at hy
    rcases hy with rfl | rfl | rfl | rfl | rfl | rfl | rfl | rfl | rfl | rfl | rfl | rfl | rfl | rfl | rfl | rfl | rfl | rfl | rfl | rfl
    · cases _e
    · cases _e
    · cases _e
    · cases _e
    · cases _e
    · cases _e
    · cases _e
    · cases _e
    · cases _e
    · cases _e
    · cases _e
    · cases _e
    · cases _e
    · cases _e
    · exact ⟨pin_laid_strconv_isGraphic, by kernel_rfl⟩
    · exact ⟨pin_laid_strconv_isNotPrint16, by kernel_rfl⟩
    · exact ⟨pin_laid_strconv_isNotPrint32, by kernel_rfl⟩
    · exact ⟨pin_laid_strconv_isPrint16, by kernel_rfl⟩
    · exact ⟨pin_laid_strconv_isPrint32, by kernel_rfl⟩
    · exact ⟨pin_laid_unicode_utf8_first, by kernel_rfl⟩) fits2
theorem fnOggBackUpto_row_tie : Rows.fnOggBackUptoRow.laidByTextAt .later Tryz.pinned [.data, .data, .data, .sentinel, .sentinel, .sentinel, .sentinel, .sentinel, .sentinel, .sentinel, .sentinel, .sentinel, .sentinel] true :=
  OpenClaim.laidByTextAt_later rfl rfl tie noOwnUnsafe
theorem fnOggCutUpto_row_tie : Rows.fnOggCutUptoRow.laidByTextAt .later Tryz.pinned [.data, .data, .data, .sentinel, .sentinel, .sentinel, .sentinel, .sentinel, .sentinel, .sentinel, .sentinel, .sentinel, .sentinel] true :=
  OpenClaim.laidByTextAt_later rfl rfl tie noOwnUnsafe
theorem fnOggPagesUpto_row_tie : Rows.fnOggPagesUptoRow.laidByTextAt .later Tryz.pinned [.data, .data, .data, .sentinel, .sentinel, .sentinel, .sentinel, .sentinel, .sentinel, .sentinel, .sentinel, .sentinel, .sentinel] true :=
  OpenClaim.laidByTextAt_later rfl rfl tie noOwnUnsafe
theorem fnHeadUpto_row_tie : Rows.fnHeadUptoRow.laidByTextAt .later Tryz.pinned [.data, .data, .data, .data, .sentinel, .sentinel, .sentinel, .sentinel, .sentinel, .sentinel, .sentinel, .sentinel, .sentinel, .sentinel, .pinned, .pinned, .pinned, .pinned, .pinned, .pinned] true :=
  OpenClaim.laidByTextAt_pinned rfl rfl tie2 rfl rfl rfl rfl (fun y hy _e => by
    simp only [Rows.fnHeadUptoRow, List.zip_cons_cons, List.zip_nil_right, List.mem_cons, List.mem_nil_iff, or_false] at hy
    rcases hy with rfl | rfl | rfl | rfl | rfl | rfl | rfl | rfl | rfl | rfl | rfl | rfl | rfl | rfl | rfl | rfl | rfl | rfl | rfl | rfl
    · cases _e
    · cases _e
    · cases _e
    · cases _e
    · cases _e
    · cases _e
    · cases _e
    · cases _e
    · cases _e
    · cases _e
    · cases _e
    · cases _e
    · cases _e
    · cases _e
    · exact ⟨pin_laid_strconv_isGraphic, by kernel_rfl⟩
    · exact ⟨pin_laid_strconv_isNotPrint16, by kernel_rfl⟩
    · exact ⟨pin_laid_strconv_isNotPrint32, by kernel_rfl⟩
    · exact ⟨pin_laid_strconv_isPrint16, by kernel_rfl⟩
    · exact ⟨pin_laid_strconv_isPrint32, by kernel_rfl⟩
    · exact ⟨pin_laid_unicode_utf8_first, by kernel_rfl⟩) fits2
theorem fnHeadAnyUpto_row_tie : Rows.fnHeadAnyUptoRow.laidByTextAt .later Tryz.pinned [.data, .data, .data, .data, .sentinel, .sentinel, .sentinel, .sentinel, .sentinel, .sentinel, .sentinel, .sentinel, .sentinel, .sentinel, .pinned, .pinned, .pinned, .pinned, .pinned, .pinned] true :=
  OpenClaim.laidByTextAt_pinned rfl rfl tie2 rfl rfl rfl rfl (fun y hy _e => by
    simp only [Rows.fnHeadAnyUptoRow, List.zip_cons_cons, List.zip_nil_right, List.mem_cons, List.mem_nil_iff, or_false] at hy
    rcases hy with rfl | rfl | rfl | rfl | rfl | rfl | rfl | rfl | rfl | rfl | rfl | rfl | rfl | rfl | rfl | rfl | rfl | rfl | rfl | rfl
    · cases _e
    · cases _e
    · cases _e
    · cases _e
    · cases _e
    · cases _e
    · cases _e
    · cases _e
    · cases _e
    · cases _e
    · cases _e
    · cases _e
    · cases _e
    · cases _e
    · exact ⟨pin_laid_strconv_isGraphic, by kernel_rfl⟩
    · exact ⟨pin_laid_strconv_isNotPrint16, by kernel_rfl⟩
    · exact ⟨pin_laid_strconv_isNotPrint32, by kernel_rfl⟩
    · exact ⟨pin_laid_strconv_isPrint16, by kernel_rfl⟩
    · exact ⟨pin_laid_strconv_isPrint32, by kernel_rfl⟩
    · exact ⟨pin_laid_unicode_utf8_first, by kernel_rfl⟩) fits2
end Go.Proofs.YtokkphocaloelaaGreatDoor
