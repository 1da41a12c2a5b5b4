/-
  DERIVED. GIVEN WITH THE SEED: THE PROGRAM's TIES (one call each: nine closed facts by the kernel) AND EACH ROW's TIE, after the 31st guide's Derived/Test/Toyas{Tie, Card}.lean. No idea stands in it: it is a product of the set-up. Laid BY PROGRAM, IN A SANDBOX (cutbox-door.mjs). By AI agents, Wed Nov 11 2026. No macro, syntax, notation, axiom, sorry.
-/
import Derived.Test.YtokjbdofpdncdaaDoorRows
import Derived.LaidByTextLater
import Derived.SevenTiedAt
import Derived.LaidSub
import Derived.LaidOnce
namespace Go.Proofs.YtokjbdofpdncdaaDoor
open Go
set_option maxRecDepth 100000
theorem seatTie1 : Tryd.prog.laidByTextLater [("math/bits.deBruijn32tab", Rows.laid_math_bits_deBruijn32tab), ("math/bits.deBruijn64tab", Rows.laid_math_bits_deBruijn64tab), ("internal/strconv.uint64pow10", Rows.laid_internal_strconv_uint64pow10), ("unicode/utf8.acceptRanges", Rows.laid_unicode_utf8_acceptRanges), ("loop.example/pub-g01453/pub/rustdemangle.ErrNotMangledName", Rows.laid_loop_example_pub_g01453_pub_rustdemangle_ErrNotMangledName), ("loop.example/pub-g01453/pub/rustdemangle.rustBasicTypes", Rows.laid_loop_example_pub_g01453_pub_rustdemangle_rustBasicTypes)] [.data, .data, .data, .data, .sentinel, .mapped] true :=
  Program.laidByTextLater_by_one 163 8 65 (by kernel_rfl) (by kernel_rfl) (by kernel_rfl) (by kernel_rfl) (by kernel_rfl) (by kernel_rfl) (fun _ _ => by kernel_rfl)
theorem pin_laid_unicode_utf8_first : Tryd.pinned.checked.prog.pinnedFits "unicode/utf8.first" = true := by kernel_rfl
theorem noOwnUnsafe : Tryd.pinned.checked.prog.headLifts.contains "ownunsafe" = false := by kernel_rfl
theorem tie : Tryd.prog.laidByTextLater [("math/bits.deBruijn32tab", Rows.laid_math_bits_deBruijn32tab), ("math/bits.deBruijn64tab", Rows.laid_math_bits_deBruijn64tab), ("internal/strconv.uint64pow10", Rows.laid_internal_strconv_uint64pow10)] [.data, .data, .data] true :=
  Program.laidByTextLater.sub seatTie1 ["math/bits.deBruijn32tab", "math/bits.deBruijn64tab", "internal/strconv.uint64pow10"] (by kernel_rfl) (by kernel_rfl)
theorem fnLegacyHashUnseen_row_tie : Rows.fnLegacyHashUnseenRow.laidByTextAt .later Tryd.pinned [.data, .data, .data] true :=
  OpenClaim.laidByTextAt_later rfl rfl tie noOwnUnsafe
theorem fits2 : Tryd.pinned.checked.prog.listedFits [("math/bits.deBruijn32tab", Rows.laid_math_bits_deBruijn32tab), ("math/bits.deBruijn64tab", Rows.laid_math_bits_deBruijn64tab), ("internal/strconv.uint64pow10", Rows.laid_internal_strconv_uint64pow10), ("unicode/utf8.acceptRanges", Rows.laid_unicode_utf8_acceptRanges), ("unicode/utf8.first", Rows.laid_unicode_utf8_first)] = true := by
  unfold Program.listedFits
  rw [noOwnUnsafe]
  kernel_rfl
theorem tie2 : Tryd.prog.laidByTextLater [("math/bits.deBruijn32tab", Rows.laid_math_bits_deBruijn32tab), ("math/bits.deBruijn64tab", Rows.laid_math_bits_deBruijn64tab), ("internal/strconv.uint64pow10", Rows.laid_internal_strconv_uint64pow10), ("unicode/utf8.acceptRanges", Rows.laid_unicode_utf8_acceptRanges)] [.data, .data, .data, .data] true :=
  Program.laidByTextLater.sub seatTie1 ["math/bits.deBruijn32tab", "math/bits.deBruijn64tab", "internal/strconv.uint64pow10", "unicode/utf8.acceptRanges"] (by kernel_rfl) (by kernel_rfl)
theorem fnConstantMade_row_tie : Rows.fnConstantMadeRow.laidByTextAt .later Tryd.pinned [.data, .data, .data, .data, .pinned] true :=
  OpenClaim.laidByTextAt_pinned rfl rfl tie2 rfl rfl rfl rfl (fun y hy _e => by
    simp only [Rows.fnConstantMadeRow, List.zip_cons_cons, List.zip_nil_right, List.mem_cons, List.mem_nil_iff, or_false] at hy
    rcases hy with rfl | rfl | rfl | rfl | rfl
    · cases _e
    · cases _e
    · cases _e
    · cases _e
    · exact ⟨pin_laid_unicode_utf8_first, by kernel_rfl⟩) fits2
theorem tie3 : Tryd.prog.laidByTextLater [("math/bits.deBruijn32tab", Rows.laid_math_bits_deBruijn32tab), ("math/bits.deBruijn64tab", Rows.laid_math_bits_deBruijn64tab), ("internal/strconv.uint64pow10", Rows.laid_internal_strconv_uint64pow10), ("loop.example/pub-g01453/pub/rustdemangle.ErrNotMangledName", Rows.laid_loop_example_pub_g01453_pub_rustdemangle_ErrNotMangledName), ("loop.example/pub-g01453/pub/rustdemangle.rustBasicTypes", Rows.laid_loop_example_pub_g01453_pub_rustdemangle_rustBasicTypes)] [.data, .data, .data, .sentinel, .mapped] true :=
  Program.laidByTextLater.sub seatTie1 ["math/bits.deBruijn32tab", "math/bits.deBruijn64tab", "internal/strconv.uint64pow10", "loop.example/pub-g01453/pub/rustdemangle.ErrNotMangledName", "loop.example/pub-g01453/pub/rustdemangle.rustBasicTypes"] (by kernel_rfl) (by kernel_rfl)
theorem fnBasicArgument_row_tie : Rows.fnBasicArgumentRow.laidByTextAt .later Tryd.pinned [.data, .data, .data, .sentinel, .mapped] true :=
  OpenClaim.laidByTextAt_later rfl rfl tie3 noOwnUnsafe
theorem fnLegacyHashUnseenUpto_row_tie : Rows.fnLegacyHashUnseenUptoRow.laidByTextAt .later Tryd.pinned [.data, .data, .data] true :=
  OpenClaim.laidByTextAt_later rfl rfl tie noOwnUnsafe
theorem fnConstantMadeUpto_row_tie : Rows.fnConstantMadeUptoRow.laidByTextAt .later Tryd.pinned [.data, .data, .data, .data, .pinned] true :=
  OpenClaim.laidByTextAt_pinned rfl rfl tie2 rfl rfl rfl rfl (fun y hy _e => by
    simp only [Rows.fnConstantMadeUptoRow, List.zip_cons_cons, List.zip_nil_right, List.mem_cons, List.mem_nil_iff, or_false] at hy
    rcases hy with rfl | rfl | rfl | rfl | rfl
    · cases _e
    · cases _e
    · cases _e
    · cases _e
    · exact ⟨pin_laid_unicode_utf8_first, by kernel_rfl⟩) fits2
theorem fnBasicArgumentUpto_row_tie : Rows.fnBasicArgumentUptoRow.laidByTextAt .later Tryd.pinned [.data, .data, .data, .sentinel, .mapped] true :=
  OpenClaim.laidByTextAt_later rfl rfl tie3 noOwnUnsafe
end Go.Proofs.YtokjbdofpdncdaaDoor
