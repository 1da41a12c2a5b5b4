/- The library's table of powers, out of what a row lists. -/
import Derived.Test.YtokjbdofpdncdaaDoorItoa
namespace Go.Proofs.YtokjbdofpdncdaaDoor
open Go.RowKit Go.Lib
set_option linter.unusedVariables false

theorem pow_laid3 {w : World} (h : laidMetH Tryd.prog [("math/bits.deBruijn32tab", Rows.laid_math_bits_deBruijn32tab), ("math/bits.deBruijn64tab", Rows.laid_math_bits_deBruijn64tab), ("internal/strconv.uint64pow10", Rows.laid_internal_strconv_uint64pow10)] w) : Pow w w.heap.size := by
  rw [MakeChecks.laidMetH_plain _ _ _ (by kernel_rfl)] at h
  exact pow_of_laidMet h (by
    rw [show (tabData .u64 pow10Tab : DataW Unit) = Rows.laid_internal_strconv_uint64pow10 by kernel_rfl]
    simp)
theorem pow_laid5 {w : World} (h : laidMetH Tryd.prog [("math/bits.deBruijn32tab", Rows.laid_math_bits_deBruijn32tab), ("math/bits.deBruijn64tab", Rows.laid_math_bits_deBruijn64tab), ("internal/strconv.uint64pow10", Rows.laid_internal_strconv_uint64pow10), ("unicode/utf8.acceptRanges", Rows.laid_unicode_utf8_acceptRanges), ("unicode/utf8.first", Rows.laid_unicode_utf8_first)] w) : Pow w w.heap.size := by
  rw [MakeChecks.laidMetH_plain _ _ _ (by kernel_rfl)] at h
  exact pow_of_laidMet h (by
    rw [show (tabData .u64 pow10Tab : DataW Unit) = Rows.laid_internal_strconv_uint64pow10 by kernel_rfl]
    simp)
end Go.Proofs.YtokjbdofpdncdaaDoor
