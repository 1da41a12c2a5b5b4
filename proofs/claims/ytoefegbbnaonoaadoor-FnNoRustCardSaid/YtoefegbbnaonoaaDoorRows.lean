/-
  NARROWER THAN 'FOR EVERY INPUT', by the rows' own cells (each row's printed sentence says how): FnCutNumberRefused: ifaces, maps, laid · FnNoRust: ifaces, maps, laid · FnUnknownRefused: ifaces, maps, laid · FnHugeNumberRefused: ifaces, maps, laid · FnBasicArgument: ifaces, maps, laid · FnClosureNumber: ifaces, maps, laid.
  DERIVED. THE GIVEN ROWS OF THIS SEAT. 6 by the template 'for every input the law returns true; each argument reads behind the call as it read before'; 0 by the template 'total and deterministic' (their statements: YtoefegbbnaonoaaDoorTotals.lean).
  GIVEN WITH THE SEED: the statements are not yours to turn. If you find one false, say at which input.
  Laid BY PROGRAM, IN A SANDBOX (cutbox-rows.mjs): the forced cells as the released guide's own fill.sh prints them over the translation 8beb85e98b68624a… (all of the seat's roots in one cut). By AI agents, Wed Nov 11 2026. No macro, syntax, notation, axiom, sorry.
-/
import Derived.Test.YtoefegbbnaonoaaDoorChecked
import GoSem.PinnedTables
import GoSem.Claim
import GoSem.ClaimJoined
import GoSem.ClaimMapViews
import Derived.JoinedTies
import Derived.KernelRfl
namespace Go.Proofs.YtoefegbbnaonoaaDoor
/- THE CELL 'sum', in the pinned program and in every row, IS THE sha256 OF THE DUMP (.gsa) THAT YtoefegbbnaonoaaDoorProg.lean LOADS. Nothing in Lean hashes anything: it is a label: what it is worth is what the hold of that sum in a sandbox is worth. -/
noncomputable def Tryd.pinned : Pinned := { name := "ytoefegbbnaonoaadoor", sum := "8beb85e98b68624a2d432ef69d8c7d0186f4fd572784d1e2a7950ab734a61359", checked := Tryd.checked }
namespace Rows
def none {H : Type} : Left H := { results := [], args := [] }

/- WHAT THE LISTED PACKAGE-LEVEL VARIABLES READ AS WHEN THE CALL BEGINS. Each datum BY PROGRAM (the guide's laid-datum.mjs) off the statement by which the dump's own 'gosem.cut.vars' lays the variable. In a bare row this is a premise. The card (YtoefegbbnaonoaaDoorCards.lean) ties it to the program's text. -/
def laid_math_bits_deBruijn32tab {H : Type} : DataW H := .agg [.lit (.int .u8 0), .lit (.int .u8 1), .lit (.int .u8 28), .lit (.int .u8 2), .lit (.int .u8 29), .lit (.int .u8 14), .lit (.int .u8 24), .lit (.int .u8 3), .lit (.int .u8 30), .lit (.int .u8 22), .lit (.int .u8 20), .lit (.int .u8 15), .lit (.int .u8 25), .lit (.int .u8 17), .lit (.int .u8 4), .lit (.int .u8 8), .lit (.int .u8 31), .lit (.int .u8 27), .lit (.int .u8 13), .lit (.int .u8 23), .lit (.int .u8 21), .lit (.int .u8 19), .lit (.int .u8 16), .lit (.int .u8 7), .lit (.int .u8 26), .lit (.int .u8 12), .lit (.int .u8 18), .lit (.int .u8 6), .lit (.int .u8 11), .lit (.int .u8 5), .lit (.int .u8 10), .lit (.int .u8 9)]
def laid_math_bits_deBruijn64tab {H : Type} : DataW H := .agg [.lit (.int .u8 0), .lit (.int .u8 1), .lit (.int .u8 56), .lit (.int .u8 2), .lit (.int .u8 57), .lit (.int .u8 49), .lit (.int .u8 28), .lit (.int .u8 3), .lit (.int .u8 61), .lit (.int .u8 58), .lit (.int .u8 42), .lit (.int .u8 50), .lit (.int .u8 38), .lit (.int .u8 29), .lit (.int .u8 17), .lit (.int .u8 4), .lit (.int .u8 62), .lit (.int .u8 47), .lit (.int .u8 59), .lit (.int .u8 36), .lit (.int .u8 45), .lit (.int .u8 43), .lit (.int .u8 51), .lit (.int .u8 22), .lit (.int .u8 53), .lit (.int .u8 39), .lit (.int .u8 33), .lit (.int .u8 30), .lit (.int .u8 24), .lit (.int .u8 18), .lit (.int .u8 12), .lit (.int .u8 5), .lit (.int .u8 63), .lit (.int .u8 55), .lit (.int .u8 48), .lit (.int .u8 27), .lit (.int .u8 60), .lit (.int .u8 41), .lit (.int .u8 37), .lit (.int .u8 16), .lit (.int .u8 46), .lit (.int .u8 35), .lit (.int .u8 44), .lit (.int .u8 21), .lit (.int .u8 52), .lit (.int .u8 32), .lit (.int .u8 23), .lit (.int .u8 11), .lit (.int .u8 54), .lit (.int .u8 26), .lit (.int .u8 40), .lit (.int .u8 15), .lit (.int .u8 34), .lit (.int .u8 20), .lit (.int .u8 31), .lit (.int .u8 10), .lit (.int .u8 25), .lit (.int .u8 14), .lit (.int .u8 19), .lit (.int .u8 9), .lit (.int .u8 13), .lit (.int .u8 8), .lit (.int .u8 7), .lit (.int .u8 6)]
def laid_internal_strconv_uint64pow10 {H : Type} : DataW H := .agg [.lit (.int .u64 1), .lit (.int .u64 10), .lit (.int .u64 100), .lit (.int .u64 1000), .lit (.int .u64 10000), .lit (.int .u64 100000), .lit (.int .u64 1000000), .lit (.int .u64 10000000), .lit (.int .u64 100000000), .lit (.int .u64 1000000000), .lit (.int .u64 10000000000), .lit (.int .u64 100000000000), .lit (.int .u64 1000000000000), .lit (.int .u64 10000000000000), .lit (.int .u64 100000000000000), .lit (.int .u64 1000000000000000), .lit (.int .u64 10000000000000000), .lit (.int .u64 100000000000000000), .lit (.int .u64 1000000000000000000), .lit (.int .u64 10000000000000000000)]
def laid_loop_example_pub_g01453_pub_rustdemangle_ErrNotMangledName {H : Type} : DataW H := .iface "*errors.errorString" (.ptr (.agg [.lit (.string [110, 111, 116, 32, 97, 32, 67, 43, 43, 32, 111, 114, 32, 82, 117, 115, 116, 32, 109, 97, 110, 103, 108, 101, 100, 32, 110, 97, 109, 101])]))
def laid_loop_example_pub_g01453_pub_rustdemangle_rustBasicTypes {H : Type} : DataW H := .map [(.int .u8 97, .lit (.string [105, 56])), (.int .u8 98, .lit (.string [98, 111, 111, 108])), (.int .u8 99, .lit (.string [99, 104, 97, 114])), (.int .u8 100, .lit (.string [102, 54, 52])), (.int .u8 101, .lit (.string [115, 116, 114])), (.int .u8 102, .lit (.string [102, 51, 50])), (.int .u8 104, .lit (.string [117, 56])), (.int .u8 105, .lit (.string [105, 115, 105, 122, 101])), (.int .u8 106, .lit (.string [117, 115, 105, 122, 101])), (.int .u8 108, .lit (.string [105, 51, 50])), (.int .u8 109, .lit (.string [117, 51, 50])), (.int .u8 110, .lit (.string [105, 49, 50, 56])), (.int .u8 111, .lit (.string [117, 49, 50, 56])), (.int .u8 112, .lit (.string [95])), (.int .u8 115, .lit (.string [105, 49, 54])), (.int .u8 116, .lit (.string [117, 49, 54])), (.int .u8 117, .lit (.string [40, 41])), (.int .u8 118, .lit (.string [46, 46, 46])), (.int .u8 120, .lit (.string [105, 54, 52])), (.int .u8 121, .lit (.string [117, 54, 52])), (.int .u8 122, .lit (.string [33]))]
def laid_unicode_utf8_acceptRanges {H : Type} : DataW H := .agg [.agg [.lit (.int .u8 128), .lit (.int .u8 191)], .agg [.lit (.int .u8 160), .lit (.int .u8 191)], .agg [.lit (.int .u8 128), .lit (.int .u8 159)], .agg [.lit (.int .u8 144), .lit (.int .u8 191)], .agg [.lit (.int .u8 128), .lit (.int .u8 143)], .agg [.lit (.int .u8 0), .lit (.int .u8 0)], .agg [.lit (.int .u8 0), .lit (.int .u8 0)], .agg [.lit (.int .u8 0), .lit (.int .u8 0)], .agg [.lit (.int .u8 0), .lit (.int .u8 0)], .agg [.lit (.int .u8 0), .lit (.int .u8 0)], .agg [.lit (.int .u8 0), .lit (.int .u8 0)], .agg [.lit (.int .u8 0), .lit (.int .u8 0)], .agg [.lit (.int .u8 0), .lit (.int .u8 0)], .agg [.lit (.int .u8 0), .lit (.int .u8 0)], .agg [.lit (.int .u8 0), .lit (.int .u8 0)], .agg [.lit (.int .u8 0), .lit (.int .u8 0)]]
/-- One of Go's own tables, pinned by name: the form's constant. -/
def laid_unicode_utf8_first : DataW Unit := Go.Pinned.utf8First

/-- 'laws.FnCutNumberRefused': WHATEVER THE INPUT: true; the input reads as it did. -/
def fnCutNumberRefusedSpec : ChangeSpec := { name := "fnCutNumberRefused", vars := ["loop.example/pub-g01453/pub/rustdemangle.ErrNotMangledName", "loop.example/pub-g01453/pub/rustdemangle.rustBasicTypes"], fn := fun _ => fun
  | [d1, d2, g1, g2] => { results := [.lit (.bool true)], args := [d1, d2], vars := [g1, g2] }
  | _ => none }
def fnCutNumberRefusedRow : OpenClaim := { program := "ytoefegbbnaonoaadoor", sum := "8beb85e98b68624a2d432ef69d8c7d0186f4fd572784d1e2a7950ab734a61359", func := "loop.example/pub-g01453/laws.FnCutNumberRefused", spec := "fnCutNumberRefused", inPlace := ["internal/abi.NoEscape"], unfollowed := true, recurses := true, named := ["loop.example/pub-g01453/pub/rustdemangle.ErrNotMangledName", "loop.example/pub-g01453/pub/rustdemangle.rustBasicTypes", "internal/strconv.uint64pow10", "math/bits.deBruijn32tab", "math/bits.deBruijn64tab"], maps := true, ifaces := true, apart := false, laid := [("math/bits.deBruijn32tab", laid_math_bits_deBruijn32tab), ("math/bits.deBruijn64tab", laid_math_bits_deBruijn64tab), ("internal/strconv.uint64pow10", laid_internal_strconv_uint64pow10), ("loop.example/pub-g01453/pub/rustdemangle.ErrNotMangledName", laid_loop_example_pub_g01453_pub_rustdemangle_ErrNotMangledName), ("loop.example/pub-g01453/pub/rustdemangle.rustBasicTypes", laid_loop_example_pub_g01453_pub_rustdemangle_rustBasicTypes)] }
def FnCutNumberRefusedSaid : Prop := fnCutNumberRefusedRow.holds Tryd.pinned (OpenSpec.ofChange fnCutNumberRefusedSpec)

/-- ITS FALSE NEIGHBOUR: 'it returns false'. Refute it at one input. -/
def fnCutNumberRefusedWrong : ChangeSpec := { name := "fnCutNumberRefused", vars := ["loop.example/pub-g01453/pub/rustdemangle.ErrNotMangledName", "loop.example/pub-g01453/pub/rustdemangle.rustBasicTypes"], fn := fun _ => fun
  | [d1, d2, g1, g2] => { results := [.lit (.bool false)], args := [d1, d2], vars := [g1, g2] }
  | _ => none }
def FnCutNumberRefusedWrongFalsely : Prop := fnCutNumberRefusedRow.holds Tryd.pinned (OpenSpec.ofChange fnCutNumberRefusedWrong)

/-- 'laws.FnNoRust': WHATEVER THE INPUT: true; the input reads as it did. -/
def fnNoRustSpec : ChangeSpec := { name := "fnNoRust", vars := ["loop.example/pub-g01453/pub/rustdemangle.ErrNotMangledName", "loop.example/pub-g01453/pub/rustdemangle.rustBasicTypes"], fn := fun _ => fun
  | [d1, d2, g1, g2] => { results := [.lit (.bool true)], args := [d1, d2], vars := [g1, g2] }
  | _ => none }
def fnNoRustRow : OpenClaim := { program := "ytoefegbbnaonoaadoor", sum := "8beb85e98b68624a2d432ef69d8c7d0186f4fd572784d1e2a7950ab734a61359", func := "loop.example/pub-g01453/laws.FnNoRust", spec := "fnNoRust", inPlace := ["internal/abi.NoEscape"], unfollowed := true, recurses := true, named := ["loop.example/pub-g01453/pub/rustdemangle.ErrNotMangledName", "loop.example/pub-g01453/pub/rustdemangle.rustBasicTypes", "internal/strconv.uint64pow10", "math/bits.deBruijn32tab", "math/bits.deBruijn64tab"], maps := true, ifaces := true, apart := false, laid := [("math/bits.deBruijn32tab", laid_math_bits_deBruijn32tab), ("math/bits.deBruijn64tab", laid_math_bits_deBruijn64tab), ("internal/strconv.uint64pow10", laid_internal_strconv_uint64pow10), ("loop.example/pub-g01453/pub/rustdemangle.ErrNotMangledName", laid_loop_example_pub_g01453_pub_rustdemangle_ErrNotMangledName), ("loop.example/pub-g01453/pub/rustdemangle.rustBasicTypes", laid_loop_example_pub_g01453_pub_rustdemangle_rustBasicTypes)] }
def FnNoRustSaid : Prop := fnNoRustRow.holds Tryd.pinned (OpenSpec.ofChange fnNoRustSpec)

/-- ITS FALSE NEIGHBOUR: 'it returns false'. Refute it at one input. -/
def fnNoRustWrong : ChangeSpec := { name := "fnNoRust", vars := ["loop.example/pub-g01453/pub/rustdemangle.ErrNotMangledName", "loop.example/pub-g01453/pub/rustdemangle.rustBasicTypes"], fn := fun _ => fun
  | [d1, d2, g1, g2] => { results := [.lit (.bool false)], args := [d1, d2], vars := [g1, g2] }
  | _ => none }
def FnNoRustWrongFalsely : Prop := fnNoRustRow.holds Tryd.pinned (OpenSpec.ofChange fnNoRustWrong)

/-- 'laws.FnUnknownRefused': WHATEVER THE INPUT: true; the input reads as it did. -/
def fnUnknownRefusedSpec : ChangeSpec := { name := "fnUnknownRefused", vars := ["loop.example/pub-g01453/pub/rustdemangle.ErrNotMangledName", "loop.example/pub-g01453/pub/rustdemangle.rustBasicTypes"], fn := fun _ => fun
  | [d1, d2, g1, g2] => { results := [.lit (.bool true)], args := [d1, d2], vars := [g1, g2] }
  | _ => none }
def fnUnknownRefusedRow : OpenClaim := { program := "ytoefegbbnaonoaadoor", sum := "8beb85e98b68624a2d432ef69d8c7d0186f4fd572784d1e2a7950ab734a61359", func := "loop.example/pub-g01453/laws.FnUnknownRefused", spec := "fnUnknownRefused", inPlace := ["internal/abi.NoEscape"], unfollowed := true, recurses := true, named := ["loop.example/pub-g01453/pub/rustdemangle.ErrNotMangledName", "loop.example/pub-g01453/pub/rustdemangle.rustBasicTypes", "internal/strconv.uint64pow10", "math/bits.deBruijn32tab", "math/bits.deBruijn64tab"], maps := true, ifaces := true, apart := false, laid := [("math/bits.deBruijn32tab", laid_math_bits_deBruijn32tab), ("math/bits.deBruijn64tab", laid_math_bits_deBruijn64tab), ("internal/strconv.uint64pow10", laid_internal_strconv_uint64pow10), ("loop.example/pub-g01453/pub/rustdemangle.ErrNotMangledName", laid_loop_example_pub_g01453_pub_rustdemangle_ErrNotMangledName), ("loop.example/pub-g01453/pub/rustdemangle.rustBasicTypes", laid_loop_example_pub_g01453_pub_rustdemangle_rustBasicTypes)] }
def FnUnknownRefusedSaid : Prop := fnUnknownRefusedRow.holds Tryd.pinned (OpenSpec.ofChange fnUnknownRefusedSpec)

/-- ITS FALSE NEIGHBOUR: 'it returns false'. Refute it at one input. -/
def fnUnknownRefusedWrong : ChangeSpec := { name := "fnUnknownRefused", vars := ["loop.example/pub-g01453/pub/rustdemangle.ErrNotMangledName", "loop.example/pub-g01453/pub/rustdemangle.rustBasicTypes"], fn := fun _ => fun
  | [d1, d2, g1, g2] => { results := [.lit (.bool false)], args := [d1, d2], vars := [g1, g2] }
  | _ => none }
def FnUnknownRefusedWrongFalsely : Prop := fnUnknownRefusedRow.holds Tryd.pinned (OpenSpec.ofChange fnUnknownRefusedWrong)

/-- 'laws.FnHugeNumberRefused': WHATEVER THE INPUT: true; the input reads as it did. -/
def fnHugeNumberRefusedSpec : ChangeSpec := { name := "fnHugeNumberRefused", vars := ["loop.example/pub-g01453/pub/rustdemangle.ErrNotMangledName", "loop.example/pub-g01453/pub/rustdemangle.rustBasicTypes"], fn := fun _ => fun
  | [d1, d2, g1, g2] => { results := [.lit (.bool true)], args := [d1, d2], vars := [g1, g2] }
  | _ => none }
def fnHugeNumberRefusedRow : OpenClaim := { program := "ytoefegbbnaonoaadoor", sum := "8beb85e98b68624a2d432ef69d8c7d0186f4fd572784d1e2a7950ab734a61359", func := "loop.example/pub-g01453/laws.FnHugeNumberRefused", spec := "fnHugeNumberRefused", inPlace := ["internal/abi.NoEscape"], unfollowed := true, recurses := true, named := ["internal/strconv.uint64pow10", "math/bits.deBruijn32tab", "math/bits.deBruijn64tab", "loop.example/pub-g01453/pub/rustdemangle.ErrNotMangledName", "loop.example/pub-g01453/pub/rustdemangle.rustBasicTypes"], maps := true, ifaces := true, apart := false, laid := [("math/bits.deBruijn32tab", laid_math_bits_deBruijn32tab), ("math/bits.deBruijn64tab", laid_math_bits_deBruijn64tab), ("internal/strconv.uint64pow10", laid_internal_strconv_uint64pow10), ("loop.example/pub-g01453/pub/rustdemangle.ErrNotMangledName", laid_loop_example_pub_g01453_pub_rustdemangle_ErrNotMangledName), ("loop.example/pub-g01453/pub/rustdemangle.rustBasicTypes", laid_loop_example_pub_g01453_pub_rustdemangle_rustBasicTypes)] }
def FnHugeNumberRefusedSaid : Prop := fnHugeNumberRefusedRow.holds Tryd.pinned (OpenSpec.ofChange fnHugeNumberRefusedSpec)

/-- ITS FALSE NEIGHBOUR: 'it returns false'. Refute it at one input. -/
def fnHugeNumberRefusedWrong : ChangeSpec := { name := "fnHugeNumberRefused", vars := ["loop.example/pub-g01453/pub/rustdemangle.ErrNotMangledName", "loop.example/pub-g01453/pub/rustdemangle.rustBasicTypes"], fn := fun _ => fun
  | [d1, d2, g1, g2] => { results := [.lit (.bool false)], args := [d1, d2], vars := [g1, g2] }
  | _ => none }
def FnHugeNumberRefusedWrongFalsely : Prop := fnHugeNumberRefusedRow.holds Tryd.pinned (OpenSpec.ofChange fnHugeNumberRefusedWrong)

/-- 'laws.FnBasicArgument': WHATEVER THE INPUT: true; the input reads as it did. -/
def fnBasicArgumentSpec : ChangeSpec := { name := "fnBasicArgument", vars := ["loop.example/pub-g01453/pub/rustdemangle.rustBasicTypes", "loop.example/pub-g01453/pub/rustdemangle.ErrNotMangledName"], fn := fun _ => fun
  | [d, g1, g2] => { results := [.lit (.bool true)], args := [d], vars := [g1, g2] }
  | _ => none }
def fnBasicArgumentRow : OpenClaim := { program := "ytoefegbbnaonoaadoor", sum := "8beb85e98b68624a2d432ef69d8c7d0186f4fd572784d1e2a7950ab734a61359", func := "loop.example/pub-g01453/laws.FnBasicArgument", spec := "fnBasicArgument", inPlace := ["internal/abi.NoEscape"], unfollowed := true, recurses := true, named := ["loop.example/pub-g01453/pub/rustdemangle.rustBasicTypes", "loop.example/pub-g01453/pub/rustdemangle.ErrNotMangledName", "internal/strconv.uint64pow10", "math/bits.deBruijn32tab", "math/bits.deBruijn64tab"], maps := true, ifaces := true, apart := false, laid := [("math/bits.deBruijn32tab", laid_math_bits_deBruijn32tab), ("math/bits.deBruijn64tab", laid_math_bits_deBruijn64tab), ("internal/strconv.uint64pow10", laid_internal_strconv_uint64pow10), ("loop.example/pub-g01453/pub/rustdemangle.ErrNotMangledName", laid_loop_example_pub_g01453_pub_rustdemangle_ErrNotMangledName), ("loop.example/pub-g01453/pub/rustdemangle.rustBasicTypes", laid_loop_example_pub_g01453_pub_rustdemangle_rustBasicTypes)] }
def FnBasicArgumentSaid : Prop := fnBasicArgumentRow.holds Tryd.pinned (OpenSpec.ofChange fnBasicArgumentSpec)

/-- ITS FALSE NEIGHBOUR: 'it returns false'. Refute it at one input. -/
def fnBasicArgumentWrong : ChangeSpec := { name := "fnBasicArgument", vars := ["loop.example/pub-g01453/pub/rustdemangle.rustBasicTypes", "loop.example/pub-g01453/pub/rustdemangle.ErrNotMangledName"], fn := fun _ => fun
  | [d, g1, g2] => { results := [.lit (.bool false)], args := [d], vars := [g1, g2] }
  | _ => none }
def FnBasicArgumentWrongFalsely : Prop := fnBasicArgumentRow.holds Tryd.pinned (OpenSpec.ofChange fnBasicArgumentWrong)

/-- 'laws.FnClosureNumber': WHATEVER THE INPUT: true; the input reads as it did. -/
def fnClosureNumberSpec : ChangeSpec := { name := "fnClosureNumber", vars := ["loop.example/pub-g01453/pub/rustdemangle.ErrNotMangledName", "loop.example/pub-g01453/pub/rustdemangle.rustBasicTypes"], fn := fun _ => fun
  | [d, g1, g2] => { results := [.lit (.bool true)], args := [d], vars := [g1, g2] }
  | _ => none }
def fnClosureNumberRow : OpenClaim := { program := "ytoefegbbnaonoaadoor", sum := "8beb85e98b68624a2d432ef69d8c7d0186f4fd572784d1e2a7950ab734a61359", func := "loop.example/pub-g01453/laws.FnClosureNumber", spec := "fnClosureNumber", inPlace := ["internal/abi.NoEscape"], unfollowed := true, recurses := true, named := ["internal/strconv.uint64pow10", "math/bits.deBruijn32tab", "math/bits.deBruijn64tab", "unicode/utf8.first", "unicode/utf8.acceptRanges", "loop.example/pub-g01453/pub/rustdemangle.ErrNotMangledName", "loop.example/pub-g01453/pub/rustdemangle.rustBasicTypes"], maps := true, ifaces := true, apart := false, laid := [("math/bits.deBruijn32tab", laid_math_bits_deBruijn32tab), ("math/bits.deBruijn64tab", laid_math_bits_deBruijn64tab), ("internal/strconv.uint64pow10", laid_internal_strconv_uint64pow10), ("unicode/utf8.acceptRanges", laid_unicode_utf8_acceptRanges), ("loop.example/pub-g01453/pub/rustdemangle.ErrNotMangledName", laid_loop_example_pub_g01453_pub_rustdemangle_ErrNotMangledName), ("loop.example/pub-g01453/pub/rustdemangle.rustBasicTypes", laid_loop_example_pub_g01453_pub_rustdemangle_rustBasicTypes), ("unicode/utf8.first", laid_unicode_utf8_first)] }
def FnClosureNumberSaid : Prop := fnClosureNumberRow.holds Tryd.pinned (OpenSpec.ofChange fnClosureNumberSpec)

/-- ITS FALSE NEIGHBOUR: 'it returns false'. Refute it at one input. -/
def fnClosureNumberWrong : ChangeSpec := { name := "fnClosureNumber", vars := ["loop.example/pub-g01453/pub/rustdemangle.ErrNotMangledName", "loop.example/pub-g01453/pub/rustdemangle.rustBasicTypes"], fn := fun _ => fun
  | [d, g1, g2] => { results := [.lit (.bool false)], args := [d], vars := [g1, g2] }
  | _ => none }
def FnClosureNumberWrongFalsely : Prop := fnClosureNumberRow.holds Tryd.pinned (OpenSpec.ofChange fnClosureNumberWrong)

/- THE SECOND FORM. 'bulk': how many values and letters a reading holds, each counted each time it is reached (what is shared counts as often as it is met; a slice's spare places count too). A statement '..UptoSaid' is the law's where the arguments, and the package variables that the reading takes, are together of bulk at most 1048576: NARROWER than '..Said'. Prove '..Said' where nothing that the law and all that it calls make is longer than what came in: it says more and counts as full. Else prove '..UptoSaid'. A law counts once. -/
mutual
def uptoBulk {H : Type} : DataW H → Nat
  | .lit (.string bytes) => bytes.length + 1
  | .lit _ => 1
  | .nil => 1
  | .ptr d => uptoBulk d + 1
  | .slice elems spare => uptoBulkAll elems + uptoBulkAll spare + 1
  | .agg parts => uptoBulkAll parts + 1
  | .iface _ d => uptoBulk d + 1
  | .map entries => uptoBulkEntries entries + 1
  | .held _ => 1
def uptoBulkAll {H : Type} : List (DataW H) → Nat
  | [] => 0
  | d :: r => uptoBulk d + uptoBulkAll r
def uptoBulkEntries {H : Type} : List (Lit × DataW H) → Nat
  | [] => 0
  | x :: r => uptoBulkEntry x + uptoBulkEntries r
def uptoBulkEntry {H : Type} : Lit × DataW H → Nat
  | (.string bytes, d) => bytes.length + uptoBulk d + 1
  | (_, d) => uptoBulk d + 1
 end
def uptoSmall : (H : Type) → List (DataW H) → Bool := fun _ ds => decide (uptoBulkAll ds ≤ 1048576)
def OpenSpec.upto (s : _root_.Go.ChangeSpec) : _root_.Go.OpenSpec := { _root_.Go.OpenSpec.ofChange s with cond := some uptoSmall }

/-- 'laws.FnCutNumberRefused', WHERE WHAT IT READS IS OF BULK AT MOST 1048576: true; the input reads as it did. -/
def fnCutNumberRefusedUptoRow : OpenClaim := { program := "ytoefegbbnaonoaadoor", sum := "8beb85e98b68624a2d432ef69d8c7d0186f4fd572784d1e2a7950ab734a61359", func := "loop.example/pub-g01453/laws.FnCutNumberRefused", spec := "fnCutNumberRefused", inPlace := ["internal/abi.NoEscape"], unfollowed := true, recurses := true, named := ["loop.example/pub-g01453/pub/rustdemangle.ErrNotMangledName", "loop.example/pub-g01453/pub/rustdemangle.rustBasicTypes", "internal/strconv.uint64pow10", "math/bits.deBruijn32tab", "math/bits.deBruijn64tab"], maps := true, ifaces := true, apart := false, laid := [("math/bits.deBruijn32tab", laid_math_bits_deBruijn32tab), ("math/bits.deBruijn64tab", laid_math_bits_deBruijn64tab), ("internal/strconv.uint64pow10", laid_internal_strconv_uint64pow10), ("loop.example/pub-g01453/pub/rustdemangle.ErrNotMangledName", laid_loop_example_pub_g01453_pub_rustdemangle_ErrNotMangledName), ("loop.example/pub-g01453/pub/rustdemangle.rustBasicTypes", laid_loop_example_pub_g01453_pub_rustdemangle_rustBasicTypes)], narrowed := true }
def FnCutNumberRefusedUptoSaid : Prop := fnCutNumberRefusedUptoRow.holds Tryd.pinned (OpenSpec.upto fnCutNumberRefusedSpec)

/-- 'laws.FnNoRust', WHERE WHAT IT READS IS OF BULK AT MOST 1048576: true; the input reads as it did. -/
def fnNoRustUptoRow : OpenClaim := { program := "ytoefegbbnaonoaadoor", sum := "8beb85e98b68624a2d432ef69d8c7d0186f4fd572784d1e2a7950ab734a61359", func := "loop.example/pub-g01453/laws.FnNoRust", spec := "fnNoRust", inPlace := ["internal/abi.NoEscape"], unfollowed := true, recurses := true, named := ["loop.example/pub-g01453/pub/rustdemangle.ErrNotMangledName", "loop.example/pub-g01453/pub/rustdemangle.rustBasicTypes", "internal/strconv.uint64pow10", "math/bits.deBruijn32tab", "math/bits.deBruijn64tab"], maps := true, ifaces := true, apart := false, laid := [("math/bits.deBruijn32tab", laid_math_bits_deBruijn32tab), ("math/bits.deBruijn64tab", laid_math_bits_deBruijn64tab), ("internal/strconv.uint64pow10", laid_internal_strconv_uint64pow10), ("loop.example/pub-g01453/pub/rustdemangle.ErrNotMangledName", laid_loop_example_pub_g01453_pub_rustdemangle_ErrNotMangledName), ("loop.example/pub-g01453/pub/rustdemangle.rustBasicTypes", laid_loop_example_pub_g01453_pub_rustdemangle_rustBasicTypes)], narrowed := true }
def FnNoRustUptoSaid : Prop := fnNoRustUptoRow.holds Tryd.pinned (OpenSpec.upto fnNoRustSpec)

/-- 'laws.FnUnknownRefused', WHERE WHAT IT READS IS OF BULK AT MOST 1048576: true; the input reads as it did. -/
def fnUnknownRefusedUptoRow : OpenClaim := { program := "ytoefegbbnaonoaadoor", sum := "8beb85e98b68624a2d432ef69d8c7d0186f4fd572784d1e2a7950ab734a61359", func := "loop.example/pub-g01453/laws.FnUnknownRefused", spec := "fnUnknownRefused", inPlace := ["internal/abi.NoEscape"], unfollowed := true, recurses := true, named := ["loop.example/pub-g01453/pub/rustdemangle.ErrNotMangledName", "loop.example/pub-g01453/pub/rustdemangle.rustBasicTypes", "internal/strconv.uint64pow10", "math/bits.deBruijn32tab", "math/bits.deBruijn64tab"], maps := true, ifaces := true, apart := false, laid := [("math/bits.deBruijn32tab", laid_math_bits_deBruijn32tab), ("math/bits.deBruijn64tab", laid_math_bits_deBruijn64tab), ("internal/strconv.uint64pow10", laid_internal_strconv_uint64pow10), ("loop.example/pub-g01453/pub/rustdemangle.ErrNotMangledName", laid_loop_example_pub_g01453_pub_rustdemangle_ErrNotMangledName), ("loop.example/pub-g01453/pub/rustdemangle.rustBasicTypes", laid_loop_example_pub_g01453_pub_rustdemangle_rustBasicTypes)], narrowed := true }
def FnUnknownRefusedUptoSaid : Prop := fnUnknownRefusedUptoRow.holds Tryd.pinned (OpenSpec.upto fnUnknownRefusedSpec)

/-- 'laws.FnHugeNumberRefused', WHERE WHAT IT READS IS OF BULK AT MOST 1048576: true; the input reads as it did. -/
def fnHugeNumberRefusedUptoRow : OpenClaim := { program := "ytoefegbbnaonoaadoor", sum := "8beb85e98b68624a2d432ef69d8c7d0186f4fd572784d1e2a7950ab734a61359", func := "loop.example/pub-g01453/laws.FnHugeNumberRefused", spec := "fnHugeNumberRefused", inPlace := ["internal/abi.NoEscape"], unfollowed := true, recurses := true, named := ["internal/strconv.uint64pow10", "math/bits.deBruijn32tab", "math/bits.deBruijn64tab", "loop.example/pub-g01453/pub/rustdemangle.ErrNotMangledName", "loop.example/pub-g01453/pub/rustdemangle.rustBasicTypes"], maps := true, ifaces := true, apart := false, laid := [("math/bits.deBruijn32tab", laid_math_bits_deBruijn32tab), ("math/bits.deBruijn64tab", laid_math_bits_deBruijn64tab), ("internal/strconv.uint64pow10", laid_internal_strconv_uint64pow10), ("loop.example/pub-g01453/pub/rustdemangle.ErrNotMangledName", laid_loop_example_pub_g01453_pub_rustdemangle_ErrNotMangledName), ("loop.example/pub-g01453/pub/rustdemangle.rustBasicTypes", laid_loop_example_pub_g01453_pub_rustdemangle_rustBasicTypes)], narrowed := true }
def FnHugeNumberRefusedUptoSaid : Prop := fnHugeNumberRefusedUptoRow.holds Tryd.pinned (OpenSpec.upto fnHugeNumberRefusedSpec)

/-- 'laws.FnBasicArgument', WHERE WHAT IT READS IS OF BULK AT MOST 1048576: true; the input reads as it did. -/
def fnBasicArgumentUptoRow : OpenClaim := { program := "ytoefegbbnaonoaadoor", sum := "8beb85e98b68624a2d432ef69d8c7d0186f4fd572784d1e2a7950ab734a61359", func := "loop.example/pub-g01453/laws.FnBasicArgument", spec := "fnBasicArgument", inPlace := ["internal/abi.NoEscape"], unfollowed := true, recurses := true, named := ["loop.example/pub-g01453/pub/rustdemangle.rustBasicTypes", "loop.example/pub-g01453/pub/rustdemangle.ErrNotMangledName", "internal/strconv.uint64pow10", "math/bits.deBruijn32tab", "math/bits.deBruijn64tab"], maps := true, ifaces := true, apart := false, laid := [("math/bits.deBruijn32tab", laid_math_bits_deBruijn32tab), ("math/bits.deBruijn64tab", laid_math_bits_deBruijn64tab), ("internal/strconv.uint64pow10", laid_internal_strconv_uint64pow10), ("loop.example/pub-g01453/pub/rustdemangle.ErrNotMangledName", laid_loop_example_pub_g01453_pub_rustdemangle_ErrNotMangledName), ("loop.example/pub-g01453/pub/rustdemangle.rustBasicTypes", laid_loop_example_pub_g01453_pub_rustdemangle_rustBasicTypes)], narrowed := true }
def FnBasicArgumentUptoSaid : Prop := fnBasicArgumentUptoRow.holds Tryd.pinned (OpenSpec.upto fnBasicArgumentSpec)

/-- 'laws.FnClosureNumber', WHERE WHAT IT READS IS OF BULK AT MOST 1048576: true; the input reads as it did. -/
def fnClosureNumberUptoRow : OpenClaim := { program := "ytoefegbbnaonoaadoor", sum := "8beb85e98b68624a2d432ef69d8c7d0186f4fd572784d1e2a7950ab734a61359", func := "loop.example/pub-g01453/laws.FnClosureNumber", spec := "fnClosureNumber", inPlace := ["internal/abi.NoEscape"], unfollowed := true, recurses := true, named := ["internal/strconv.uint64pow10", "math/bits.deBruijn32tab", "math/bits.deBruijn64tab", "unicode/utf8.first", "unicode/utf8.acceptRanges", "loop.example/pub-g01453/pub/rustdemangle.ErrNotMangledName", "loop.example/pub-g01453/pub/rustdemangle.rustBasicTypes"], maps := true, ifaces := true, apart := false, laid := [("math/bits.deBruijn32tab", laid_math_bits_deBruijn32tab), ("math/bits.deBruijn64tab", laid_math_bits_deBruijn64tab), ("internal/strconv.uint64pow10", laid_internal_strconv_uint64pow10), ("unicode/utf8.acceptRanges", laid_unicode_utf8_acceptRanges), ("loop.example/pub-g01453/pub/rustdemangle.ErrNotMangledName", laid_loop_example_pub_g01453_pub_rustdemangle_ErrNotMangledName), ("loop.example/pub-g01453/pub/rustdemangle.rustBasicTypes", laid_loop_example_pub_g01453_pub_rustdemangle_rustBasicTypes), ("unicode/utf8.first", laid_unicode_utf8_first)], narrowed := true }
def FnClosureNumberUptoSaid : Prop := fnClosureNumberUptoRow.holds Tryd.pinned (OpenSpec.upto fnClosureNumberSpec)

end Rows
end Go.Proofs.YtoefegbbnaonoaaDoor
