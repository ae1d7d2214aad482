/-
  DERIVED. GIVEN WITH THE SEED: THE PROGRAM's TIES (one call each: nine closed facts by the kernel) AND EACH ROW's TIE, after the 31st guide's Derived/Test/Toyas{Tie, Card}.lean. No idea stands in it: it is a product of the set-up. Laid BY PROGRAM, IN A SANDBOX (cutbox-door.mjs). By AI agents, Wed Nov 11 2026. No macro, syntax, notation, axiom, sorry.
-/
import Derived.Test.YtmkpkpkcoieeiabDoorRows
import Derived.LaidByTextLater
import Derived.SevenTiedAt
import Derived.LaidSub
import Derived.LaidOnce
namespace Go.Proofs.YtmkpkpkcoieeiabDoor
open Go
set_option maxRecDepth 100000
theorem seatTie1 : Tryd.prog.laidByTextLater [("math/bits.deBruijn32tab", Rows.laid_math_bits_deBruijn32tab), ("math/bits.deBruijn64tab", Rows.laid_math_bits_deBruijn64tab), ("internal/strconv.uint64pow10", Rows.laid_internal_strconv_uint64pow10), ("unicode/utf8.acceptRanges", Rows.laid_unicode_utf8_acceptRanges), ("strconv.ErrRange", Rows.laid_strconv_ErrRange), ("strconv.ErrSyntax", Rows.laid_strconv_ErrSyntax), ("io.ErrUnexpectedEOF", Rows.laid_io_ErrUnexpectedEOF), ("bytes.ErrTooLarge", Rows.laid_bytes_ErrTooLarge), ("pub-stockroom/pub/apimachinery/pkg/util/intstr.ErrInvalidLengthGenerated", Rows.laid_pub_stockroom_pub_apimachinery_pkg_util_intstr_ErrInvalidLengthGenerated), ("pub-stockroom/pub/apimachinery/pkg/util/intstr.ErrIntOverflowGenerated", Rows.laid_pub_stockroom_pub_apimachinery_pkg_util_intstr_ErrIntOverflowGenerated), ("pub-stockroom/pub/apimachinery/pkg/util/intstr.ErrUnexpectedEndOfGroupGenerated", Rows.laid_pub_stockroom_pub_apimachinery_pkg_util_intstr_ErrUnexpectedEndOfGroupGenerated)] [.data, .data, .data, .data, .sentinel, .sentinel, .sentinel, .sentinel, .sentinel, .sentinel, .sentinel] true :=
  Program.laidByTextLater_by_one 167 8 65 (by kernel_rfl) (by kernel_rfl) (by kernel_rfl) (by kernel_rfl) (by kernel_rfl) (by kernel_rfl) (fun _ _ => by kernel_rfl)
theorem pin_laid_unicode_utf8_first : Tryd.pinned.checked.prog.pinnedFits "unicode/utf8.first" = true := by kernel_rfl
theorem noOwnUnsafe : Tryd.pinned.checked.prog.headLifts.contains "ownunsafe" = false := by kernel_rfl
theorem fits1 : Tryd.pinned.checked.prog.listedFits [("math/bits.deBruijn32tab", Rows.laid_math_bits_deBruijn32tab), ("math/bits.deBruijn64tab", Rows.laid_math_bits_deBruijn64tab), ("internal/strconv.uint64pow10", Rows.laid_internal_strconv_uint64pow10), ("unicode/utf8.acceptRanges", Rows.laid_unicode_utf8_acceptRanges), ("strconv.ErrRange", Rows.laid_strconv_ErrRange), ("strconv.ErrSyntax", Rows.laid_strconv_ErrSyntax), ("unicode/utf8.first", Rows.laid_unicode_utf8_first)] = true := by
  unfold Program.listedFits
  rw [noOwnUnsafe]
  kernel_rfl
theorem tie : Tryd.prog.laidByTextLater [("math/bits.deBruijn32tab", Rows.laid_math_bits_deBruijn32tab), ("math/bits.deBruijn64tab", Rows.laid_math_bits_deBruijn64tab), ("internal/strconv.uint64pow10", Rows.laid_internal_strconv_uint64pow10), ("unicode/utf8.acceptRanges", Rows.laid_unicode_utf8_acceptRanges), ("strconv.ErrRange", Rows.laid_strconv_ErrRange), ("strconv.ErrSyntax", Rows.laid_strconv_ErrSyntax)] [.data, .data, .data, .data, .sentinel, .sentinel] true :=
  Program.laidByTextLater.sub seatTie1 ["math/bits.deBruijn32tab", "math/bits.deBruijn64tab", "internal/strconv.uint64pow10", "unicode/utf8.acceptRanges", "strconv.ErrRange", "strconv.ErrSyntax"] (by kernel_rfl) (by kernel_rfl)
theorem fnPorts_row_tie : Rows.fnPortsRow.laidByTextAt .later Tryd.pinned [.data, .data, .data, .data, .sentinel, .sentinel, .pinned] true :=
  OpenClaim.laidByTextAt_pinned rfl rfl tie rfl rfl rfl rfl (fun y hy _e => by
    simp only [Rows.fnPortsRow, List.zip_cons_cons, List.zip_nil_right, List.mem_cons, List.mem_nil_iff, or_false] at hy
    rcases hy with rfl | rfl | rfl | rfl | rfl | rfl | rfl
    · cases _e
    · cases _e
    · cases _e
    · cases _e
    · cases _e
    · cases _e
    · exact ⟨pin_laid_unicode_utf8_first, by kernel_rfl⟩) fits1
theorem fnPortsWrong_row_tie : Rows.fnPortsWrongRow.laidByTextAt .later Tryd.pinned [.data, .data, .data, .data, .sentinel, .sentinel, .pinned] true :=
  OpenClaim.laidByTextAt_pinned rfl rfl tie rfl rfl rfl rfl (fun y hy _e => by
    simp only [Rows.fnPortsWrongRow, List.zip_cons_cons, List.zip_nil_right, List.mem_cons, List.mem_nil_iff, or_false] at hy
    rcases hy with rfl | rfl | rfl | rfl | rfl | rfl | rfl
    · cases _e
    · cases _e
    · cases _e
    · cases _e
    · cases _e
    · cases _e
    · exact ⟨pin_laid_unicode_utf8_first, by kernel_rfl⟩) fits1
theorem tie2 : Tryd.prog.laidByTextLater [("bytes.ErrTooLarge", Rows.laid_bytes_ErrTooLarge)] [.sentinel] true :=
  Program.laidByTextLater.sub seatTie1 ["bytes.ErrTooLarge"] (by kernel_rfl) (by kernel_rfl)
theorem fnFieldUnescape_row_tie : Rows.fnFieldUnescapeRow.laidByTextAt .later Tryd.pinned [.sentinel] true :=
  OpenClaim.laidByTextAt_later rfl rfl tie2 noOwnUnsafe
theorem tie3 : Tryd.prog.laidByTextLater [("io.ErrUnexpectedEOF", Rows.laid_io_ErrUnexpectedEOF), ("pub-stockroom/pub/apimachinery/pkg/util/intstr.ErrInvalidLengthGenerated", Rows.laid_pub_stockroom_pub_apimachinery_pkg_util_intstr_ErrInvalidLengthGenerated), ("pub-stockroom/pub/apimachinery/pkg/util/intstr.ErrIntOverflowGenerated", Rows.laid_pub_stockroom_pub_apimachinery_pkg_util_intstr_ErrIntOverflowGenerated), ("pub-stockroom/pub/apimachinery/pkg/util/intstr.ErrUnexpectedEndOfGroupGenerated", Rows.laid_pub_stockroom_pub_apimachinery_pkg_util_intstr_ErrUnexpectedEndOfGroupGenerated)] [.sentinel, .sentinel, .sentinel, .sentinel] true :=
  Program.laidByTextLater.sub seatTie1 ["io.ErrUnexpectedEOF", "pub-stockroom/pub/apimachinery/pkg/util/intstr.ErrInvalidLengthGenerated", "pub-stockroom/pub/apimachinery/pkg/util/intstr.ErrIntOverflowGenerated", "pub-stockroom/pub/apimachinery/pkg/util/intstr.ErrUnexpectedEndOfGroupGenerated"] (by kernel_rfl) (by kernel_rfl)
theorem fnIntStrBytes_row_tie : Rows.fnIntStrBytesRow.laidByTextAt .later Tryd.pinned [.sentinel, .sentinel, .sentinel, .sentinel] true :=
  OpenClaim.laidByTextAt_later rfl rfl tie3 noOwnUnsafe
theorem fnIntStrCut_row_tie : Rows.fnIntStrCutRow.laidByTextAt .later Tryd.pinned [.sentinel, .sentinel, .sentinel, .sentinel] true :=
  OpenClaim.laidByTextAt_later rfl rfl tie3 noOwnUnsafe
theorem fnPortsUpto_row_tie : Rows.fnPortsUptoRow.laidByTextAt .later Tryd.pinned [.data, .data, .data, .data, .sentinel, .sentinel, .pinned] true :=
  OpenClaim.laidByTextAt_pinned rfl rfl tie rfl rfl rfl rfl (fun y hy _e => by
    simp only [Rows.fnPortsUptoRow, List.zip_cons_cons, List.zip_nil_right, List.mem_cons, List.mem_nil_iff, or_false] at hy
    rcases hy with rfl | rfl | rfl | rfl | rfl | rfl | rfl
    · cases _e
    · cases _e
    · cases _e
    · cases _e
    · cases _e
    · cases _e
    · exact ⟨pin_laid_unicode_utf8_first, by kernel_rfl⟩) fits1
theorem fnPortsWrongUpto_row_tie : Rows.fnPortsWrongUptoRow.laidByTextAt .later Tryd.pinned [.data, .data, .data, .data, .sentinel, .sentinel, .pinned] true :=
  OpenClaim.laidByTextAt_pinned rfl rfl tie rfl rfl rfl rfl (fun y hy _e => by
    simp only [Rows.fnPortsWrongUptoRow, List.zip_cons_cons, List.zip_nil_right, List.mem_cons, List.mem_nil_iff, or_false] at hy
    rcases hy with rfl | rfl | rfl | rfl | rfl | rfl | rfl
    · cases _e
    · cases _e
    · cases _e
    · cases _e
    · cases _e
    · cases _e
    · exact ⟨pin_laid_unicode_utf8_first, by kernel_rfl⟩) fits1
theorem fnFieldUnescapeUpto_row_tie : Rows.fnFieldUnescapeUptoRow.laidByTextAt .later Tryd.pinned [.sentinel] true :=
  OpenClaim.laidByTextAt_later rfl rfl tie2 noOwnUnsafe
theorem fnIntStrBytesUpto_row_tie : Rows.fnIntStrBytesUptoRow.laidByTextAt .later Tryd.pinned [.sentinel, .sentinel, .sentinel, .sentinel] true :=
  OpenClaim.laidByTextAt_later rfl rfl tie3 noOwnUnsafe
theorem fnIntStrCutUpto_row_tie : Rows.fnIntStrCutUptoRow.laidByTextAt .later Tryd.pinned [.sentinel, .sentinel, .sentinel, .sentinel] true :=
  OpenClaim.laidByTextAt_later rfl rfl tie3 noOwnUnsafe
end Go.Proofs.YtmkpkpkcoieeiabDoor
