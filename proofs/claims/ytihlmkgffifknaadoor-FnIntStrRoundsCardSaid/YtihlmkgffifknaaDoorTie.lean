/-
  DERIVED. GIVEN WITH THE SEED: THE PROGRAM's TIES (one call each: nine closed facts by the kernel) AND EACH ROW's TIE, after the 31st guide's Derived/Test/Toyas{Tie, Card}.lean. No idea stands in it: it is a product of the set-up. Laid BY PROGRAM, IN A SANDBOX (cutbox-door.mjs). By AI agents, Wed Nov 11 2026. No macro, syntax, notation, axiom, sorry.
-/
import Derived.Test.YtihlmkgffifknaaDoorRows
import Derived.LaidByTextLater
import Derived.SevenTiedAt
import Derived.LaidSub
import Derived.LaidOnce
namespace Go.Proofs.YtihlmkgffifknaaDoor
open Go
set_option maxRecDepth 100000
theorem seatTie1 : Tryd.prog.laidByTextLater [("math/bits.deBruijn32tab", Rows.laid_math_bits_deBruijn32tab), ("math/bits.deBruijn64tab", Rows.laid_math_bits_deBruijn64tab), ("internal/strconv.uint64pow10", Rows.laid_internal_strconv_uint64pow10), ("strconv.ErrRange", Rows.laid_strconv_ErrRange), ("strconv.ErrSyntax", Rows.laid_strconv_ErrSyntax), ("io.ErrUnexpectedEOF", Rows.laid_io_ErrUnexpectedEOF), ("pub-stockroom/pub/apimachinery/pkg/util/intstr.ErrInvalidLengthGenerated", Rows.laid_pub_stockroom_pub_apimachinery_pkg_util_intstr_ErrInvalidLengthGenerated), ("pub-stockroom/pub/apimachinery/pkg/util/intstr.ErrIntOverflowGenerated", Rows.laid_pub_stockroom_pub_apimachinery_pkg_util_intstr_ErrIntOverflowGenerated), ("pub-stockroom/pub/apimachinery/pkg/util/intstr.ErrUnexpectedEndOfGroupGenerated", Rows.laid_pub_stockroom_pub_apimachinery_pkg_util_intstr_ErrUnexpectedEndOfGroupGenerated)] [.data, .data, .data, .sentinel, .sentinel, .sentinel, .sentinel, .sentinel, .sentinel] true :=
  Program.laidByTextLater_by_one 138 8 65 (by kernel_rfl) (by kernel_rfl) (by kernel_rfl) (by kernel_rfl) (by kernel_rfl) (by kernel_rfl) (fun _ _ => by kernel_rfl)
theorem noOwnUnsafe : Tryd.pinned.checked.prog.headLifts.contains "ownunsafe" = false := by kernel_rfl
theorem tie : Tryd.prog.laidByTextLater [("io.ErrUnexpectedEOF", Rows.laid_io_ErrUnexpectedEOF), ("pub-stockroom/pub/apimachinery/pkg/util/intstr.ErrInvalidLengthGenerated", Rows.laid_pub_stockroom_pub_apimachinery_pkg_util_intstr_ErrInvalidLengthGenerated), ("pub-stockroom/pub/apimachinery/pkg/util/intstr.ErrIntOverflowGenerated", Rows.laid_pub_stockroom_pub_apimachinery_pkg_util_intstr_ErrIntOverflowGenerated), ("pub-stockroom/pub/apimachinery/pkg/util/intstr.ErrUnexpectedEndOfGroupGenerated", Rows.laid_pub_stockroom_pub_apimachinery_pkg_util_intstr_ErrUnexpectedEndOfGroupGenerated)] [.sentinel, .sentinel, .sentinel, .sentinel] true :=
  Program.laidByTextLater.sub seatTie1 ["io.ErrUnexpectedEOF", "pub-stockroom/pub/apimachinery/pkg/util/intstr.ErrInvalidLengthGenerated", "pub-stockroom/pub/apimachinery/pkg/util/intstr.ErrIntOverflowGenerated", "pub-stockroom/pub/apimachinery/pkg/util/intstr.ErrUnexpectedEndOfGroupGenerated"] (by kernel_rfl) (by kernel_rfl)
theorem fnIntStrReads_row_tie : Rows.fnIntStrReadsRow.laidByTextAt .later Tryd.pinned [.sentinel, .sentinel, .sentinel, .sentinel] true :=
  OpenClaim.laidByTextAt_later rfl rfl tie noOwnUnsafe
theorem tie2 : Tryd.prog.laidByTextLater [("math/bits.deBruijn32tab", Rows.laid_math_bits_deBruijn32tab), ("math/bits.deBruijn64tab", Rows.laid_math_bits_deBruijn64tab), ("internal/strconv.uint64pow10", Rows.laid_internal_strconv_uint64pow10), ("strconv.ErrRange", Rows.laid_strconv_ErrRange), ("strconv.ErrSyntax", Rows.laid_strconv_ErrSyntax)] [.data, .data, .data, .sentinel, .sentinel] true :=
  Program.laidByTextLater.sub seatTie1 ["math/bits.deBruijn32tab", "math/bits.deBruijn64tab", "internal/strconv.uint64pow10", "strconv.ErrRange", "strconv.ErrSyntax"] (by kernel_rfl) (by kernel_rfl)
theorem fnIntStrText_row_tie : Rows.fnIntStrTextRow.laidByTextAt .later Tryd.pinned [.data, .data, .data, .sentinel, .sentinel] true :=
  OpenClaim.laidByTextAt_later rfl rfl tie2 noOwnUnsafe
theorem fnIntStrRounds_row_tie : Rows.fnIntStrRoundsRow.laidByTextAt .later Tryd.pinned [.data, .data, .data, .sentinel, .sentinel] true :=
  OpenClaim.laidByTextAt_later rfl rfl tie2 noOwnUnsafe
theorem fnIntStrScaled_row_tie : Rows.fnIntStrScaledRow.laidByTextAt .later Tryd.pinned [.data, .data, .data, .sentinel, .sentinel] true :=
  OpenClaim.laidByTextAt_later rfl rfl tie2 noOwnUnsafe
theorem fnIntStrReadsUpto_row_tie : Rows.fnIntStrReadsUptoRow.laidByTextAt .later Tryd.pinned [.sentinel, .sentinel, .sentinel, .sentinel] true :=
  OpenClaim.laidByTextAt_later rfl rfl tie noOwnUnsafe
theorem fnIntStrTextUpto_row_tie : Rows.fnIntStrTextUptoRow.laidByTextAt .later Tryd.pinned [.data, .data, .data, .sentinel, .sentinel] true :=
  OpenClaim.laidByTextAt_later rfl rfl tie2 noOwnUnsafe
theorem fnIntStrRoundsUpto_row_tie : Rows.fnIntStrRoundsUptoRow.laidByTextAt .later Tryd.pinned [.data, .data, .data, .sentinel, .sentinel] true :=
  OpenClaim.laidByTextAt_later rfl rfl tie2 noOwnUnsafe
theorem fnIntStrScaledUpto_row_tie : Rows.fnIntStrScaledUptoRow.laidByTextAt .later Tryd.pinned [.data, .data, .data, .sentinel, .sentinel] true :=
  OpenClaim.laidByTextAt_later rfl rfl tie2 noOwnUnsafe
end Go.Proofs.YtihlmkgffifknaaDoor
