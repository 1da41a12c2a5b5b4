/-
  NARROWER THAN 'FOR EVERY INPUT', by the rows' own cells (each row's printed sentence says how): FnLegacyHashUnseen: laid · FnConstantMade: loops, laid · FnBasicArgument: ifaces, maps, laid.
  DERIVED. THE GIVEN ROWS OF THIS SEAT. 3 by the template 'for every input the law returns true; each argument reads behind the call as it read before'; 0 by the template 'total and deterministic' (their statements: YtokjbdofpdncdaaDoorTotals.lean).
  GIVEN WITH THE SEED: the statements are not yours to turn. If you find one false, say at which input.
  Laid BY PROGRAM, IN A SANDBOX (cutbox-rows.mjs): the forced cells as the released guide's own fill.sh prints them over the translation f3d226800b249588… (all of the seat's roots in one cut). By AI agents, Wed Nov 11 2026. No macro, syntax, notation, axiom, sorry.
-/
import Derived.Test.YtokjbdofpdncdaaDoorChecked
import GoSem.PinnedTables
import GoSem.Claim
import GoSem.ClaimJoined
import GoSem.ClaimMapViews
import Derived.JoinedTies
import Derived.KernelRfl
namespace Go.Proofs.YtokjbdofpdncdaaDoor
/- THE CELL 'sum', in the pinned program and in every row, IS THE sha256 OF THE DUMP (.gsa) THAT YtokjbdofpdncdaaDoorProg.lean LOADS. Nothing in Lean hashes anything: it is a label: what it is worth is what the hold of that sum in a sandbox is worth. -/
noncomputable def Tryd.pinned : Pinned := { name := "ytokjbdofpdncdaadoor", sum := "f3d226800b249588671bee4c2f808b4a5b43b4224517f294a3ef21cd4a8ea8ce", checked := Tryd.checked }
namespace Rows
def none {H : Type} : Left H := { results := [], args := [] }

/- WHAT THE LISTED PACKAGE-LEVEL VARIABLES READ AS WHEN THE CALL BEGINS. Each datum BY PROGRAM (the guide's laid-datum.mjs) off the statement by which the dump's own 'gosem.cut.vars' lays the variable. In a bare row this is a premise. The card (YtokjbdofpdncdaaDoorCards.lean) ties it to the program's text. -/
def laid_math_bits_deBruijn32tab {H : Type} : DataW H := .agg [.lit (.int .u8 0), .lit (.int .u8 1), .lit (.int .u8 28), .lit (.int .u8 2), .lit (.int .u8 29), .lit (.int .u8 14), .lit (.int .u8 24), .lit (.int .u8 3), .lit (.int .u8 30), .lit (.int .u8 22), .lit (.int .u8 20), .lit (.int .u8 15), .lit (.int .u8 25), .lit (.int .u8 17), .lit (.int .u8 4), .lit (.int .u8 8), .lit (.int .u8 31), .lit (.int .u8 27), .lit (.int .u8 13), .lit (.int .u8 23), .lit (.int .u8 21), .lit (.int .u8 19), .lit (.int .u8 16), .lit (.int .u8 7), .lit (.int .u8 26), .lit (.int .u8 12), .lit (.int .u8 18), .lit (.int .u8 6), .lit (.int .u8 11), .lit (.int .u8 5), .lit (.int .u8 10), .lit (.int .u8 9)]
def laid_math_bits_deBruijn64tab {H : Type} : DataW H := .agg [.lit (.int .u8 0), .lit (.int .u8 1), .lit (.int .u8 56), .lit (.int .u8 2), .lit (.int .u8 57), .lit (.int .u8 49), .lit (.int .u8 28), .lit (.int .u8 3), .lit (.int .u8 61), .lit (.int .u8 58), .lit (.int .u8 42), .lit (.int .u8 50), .lit (.int .u8 38), .lit (.int .u8 29), .lit (.int .u8 17), .lit (.int .u8 4), .lit (.int .u8 62), .lit (.int .u8 47), .lit (.int .u8 59), .lit (.int .u8 36), .lit (.int .u8 45), .lit (.int .u8 43), .lit (.int .u8 51), .lit (.int .u8 22), .lit (.int .u8 53), .lit (.int .u8 39), .lit (.int .u8 33), .lit (.int .u8 30), .lit (.int .u8 24), .lit (.int .u8 18), .lit (.int .u8 12), .lit (.int .u8 5), .lit (.int .u8 63), .lit (.int .u8 55), .lit (.int .u8 48), .lit (.int .u8 27), .lit (.int .u8 60), .lit (.int .u8 41), .lit (.int .u8 37), .lit (.int .u8 16), .lit (.int .u8 46), .lit (.int .u8 35), .lit (.int .u8 44), .lit (.int .u8 21), .lit (.int .u8 52), .lit (.int .u8 32), .lit (.int .u8 23), .lit (.int .u8 11), .lit (.int .u8 54), .lit (.int .u8 26), .lit (.int .u8 40), .lit (.int .u8 15), .lit (.int .u8 34), .lit (.int .u8 20), .lit (.int .u8 31), .lit (.int .u8 10), .lit (.int .u8 25), .lit (.int .u8 14), .lit (.int .u8 19), .lit (.int .u8 9), .lit (.int .u8 13), .lit (.int .u8 8), .lit (.int .u8 7), .lit (.int .u8 6)]
def laid_internal_strconv_uint64pow10 {H : Type} : DataW H := .agg [.lit (.int .u64 1), .lit (.int .u64 10), .lit (.int .u64 100), .lit (.int .u64 1000), .lit (.int .u64 10000), .lit (.int .u64 100000), .lit (.int .u64 1000000), .lit (.int .u64 10000000), .lit (.int .u64 100000000), .lit (.int .u64 1000000000), .lit (.int .u64 10000000000), .lit (.int .u64 100000000000), .lit (.int .u64 1000000000000), .lit (.int .u64 10000000000000), .lit (.int .u64 100000000000000), .lit (.int .u64 1000000000000000), .lit (.int .u64 10000000000000000), .lit (.int .u64 100000000000000000), .lit (.int .u64 1000000000000000000), .lit (.int .u64 10000000000000000000)]
def laid_unicode_utf8_acceptRanges {H : Type} : DataW H := .agg [.agg [.lit (.int .u8 128), .lit (.int .u8 191)], .agg [.lit (.int .u8 160), .lit (.int .u8 191)], .agg [.lit (.int .u8 128), .lit (.int .u8 159)], .agg [.lit (.int .u8 144), .lit (.int .u8 191)], .agg [.lit (.int .u8 128), .lit (.int .u8 143)], .agg [.lit (.int .u8 0), .lit (.int .u8 0)], .agg [.lit (.int .u8 0), .lit (.int .u8 0)], .agg [.lit (.int .u8 0), .lit (.int .u8 0)], .agg [.lit (.int .u8 0), .lit (.int .u8 0)], .agg [.lit (.int .u8 0), .lit (.int .u8 0)], .agg [.lit (.int .u8 0), .lit (.int .u8 0)], .agg [.lit (.int .u8 0), .lit (.int .u8 0)], .agg [.lit (.int .u8 0), .lit (.int .u8 0)], .agg [.lit (.int .u8 0), .lit (.int .u8 0)], .agg [.lit (.int .u8 0), .lit (.int .u8 0)], .agg [.lit (.int .u8 0), .lit (.int .u8 0)]]
/-- One of Go's own tables, pinned by name: the form's constant. -/
def laid_unicode_utf8_first : DataW Unit := Go.Pinned.utf8First
def laid_loop_example_pub_g01453_pub_rustdemangle_ErrNotMangledName {H : Type} : DataW H := .iface "*errors.errorString" (.ptr (.agg [.lit (.string [110, 111, 116, 32, 97, 32, 67, 43, 43, 32, 111, 114, 32, 82, 117, 115, 116, 32, 109, 97, 110, 103, 108, 101, 100, 32, 110, 97, 109, 101])]))
def laid_loop_example_pub_g01453_pub_rustdemangle_rustBasicTypes {H : Type} : DataW H := .map [(.int .u8 97, .lit (.string [105, 56])), (.int .u8 98, .lit (.string [98, 111, 111, 108])), (.int .u8 99, .lit (.string [99, 104, 97, 114])), (.int .u8 100, .lit (.string [102, 54, 52])), (.int .u8 101, .lit (.string [115, 116, 114])), (.int .u8 102, .lit (.string [102, 51, 50])), (.int .u8 104, .lit (.string [117, 56])), (.int .u8 105, .lit (.string [105, 115, 105, 122, 101])), (.int .u8 106, .lit (.string [117, 115, 105, 122, 101])), (.int .u8 108, .lit (.string [105, 51, 50])), (.int .u8 109, .lit (.string [117, 51, 50])), (.int .u8 110, .lit (.string [105, 49, 50, 56])), (.int .u8 111, .lit (.string [117, 49, 50, 56])), (.int .u8 112, .lit (.string [95])), (.int .u8 115, .lit (.string [105, 49, 54])), (.int .u8 116, .lit (.string [117, 49, 54])), (.int .u8 117, .lit (.string [40, 41])), (.int .u8 118, .lit (.string [46, 46, 46])), (.int .u8 120, .lit (.string [105, 54, 52])), (.int .u8 121, .lit (.string [117, 54, 52])), (.int .u8 122, .lit (.string [33]))]

/-- 'laws.FnLegacyHashUnseen': WHATEVER THE INPUT: true; the input reads as it did. -/
def fnLegacyHashUnseenSpec : ChangeSpec := { name := "fnLegacyHashUnseen", fn := fun _ => fun
  | [d1, d2, d3] => { results := [.lit (.bool true)], args := [d1, d2, d3] }
  | _ => none }
def fnLegacyHashUnseenRow : OpenClaim := { program := "ytokjbdofpdncdaadoor", sum := "f3d226800b249588671bee4c2f808b4a5b43b4224517f294a3ef21cd4a8ea8ce", func := "loop.example/pub-g01453/laws.FnLegacyHashUnseen", spec := "fnLegacyHashUnseen", inPlace := ["internal/abi.NoEscape"], unfollowed := true, recurses := true, named := ["internal/strconv.uint64pow10", "math/bits.deBruijn32tab", "math/bits.deBruijn64tab"], apart := false, laid := [("math/bits.deBruijn32tab", laid_math_bits_deBruijn32tab), ("math/bits.deBruijn64tab", laid_math_bits_deBruijn64tab), ("internal/strconv.uint64pow10", laid_internal_strconv_uint64pow10)] }
def FnLegacyHashUnseenSaid : Prop := fnLegacyHashUnseenRow.holds Tryd.pinned (OpenSpec.ofChange fnLegacyHashUnseenSpec)

/-- ITS FALSE NEIGHBOUR: 'it returns false'. Refute it at one input. -/
def fnLegacyHashUnseenWrong : ChangeSpec := { name := "fnLegacyHashUnseen", fn := fun _ => fun
  | [d1, d2, d3] => { results := [.lit (.bool false)], args := [d1, d2, d3] }
  | _ => none }
def FnLegacyHashUnseenWrongFalsely : Prop := fnLegacyHashUnseenRow.holds Tryd.pinned (OpenSpec.ofChange fnLegacyHashUnseenWrong)

/-- 'laws.FnConstantMade': WHATEVER THE INPUT: true; the input reads as it did. -/
def fnConstantMadeSpec : ChangeSpec := { name := "fnConstantMade", fn := fun _ => fun
  | [d1, d2] => { results := [.lit (.bool true)], args := [d1, d2] }
  | _ => none }
def fnConstantMadeRow : OpenClaim := { program := "ytokjbdofpdncdaadoor", sum := "f3d226800b249588671bee4c2f808b4a5b43b4224517f294a3ef21cd4a8ea8ce", func := "loop.example/pub-g01453/laws.FnConstantMade", spec := "fnConstantMade", inPlace := ["internal/abi.NoEscape"], unfollowed := true, recurses := true, named := ["unicode/utf8.first", "unicode/utf8.acceptRanges", "internal/strconv.uint64pow10", "math/bits.deBruijn32tab", "math/bits.deBruijn64tab"], loops := true, apart := false, laid := [("math/bits.deBruijn32tab", laid_math_bits_deBruijn32tab), ("math/bits.deBruijn64tab", laid_math_bits_deBruijn64tab), ("internal/strconv.uint64pow10", laid_internal_strconv_uint64pow10), ("unicode/utf8.acceptRanges", laid_unicode_utf8_acceptRanges), ("unicode/utf8.first", laid_unicode_utf8_first)] }
def FnConstantMadeSaid : Prop := fnConstantMadeRow.holds Tryd.pinned (OpenSpec.ofChange fnConstantMadeSpec)

/-- ITS FALSE NEIGHBOUR: 'it returns false'. Refute it at one input. -/
def fnConstantMadeWrong : ChangeSpec := { name := "fnConstantMade", fn := fun _ => fun
  | [d1, d2] => { results := [.lit (.bool false)], args := [d1, d2] }
  | _ => none }
def FnConstantMadeWrongFalsely : Prop := fnConstantMadeRow.holds Tryd.pinned (OpenSpec.ofChange fnConstantMadeWrong)

/-- 'laws.FnBasicArgument': WHATEVER THE INPUT: true; the input reads as it did. -/
def fnBasicArgumentSpec : ChangeSpec := { name := "fnBasicArgument", vars := ["loop.example/pub-g01453/pub/rustdemangle.rustBasicTypes", "loop.example/pub-g01453/pub/rustdemangle.ErrNotMangledName"], fn := fun _ => fun
  | [d, g1, g2] => { results := [.lit (.bool true)], args := [d], vars := [g1, g2] }
  | _ => none }
def fnBasicArgumentRow : OpenClaim := { program := "ytokjbdofpdncdaadoor", sum := "f3d226800b249588671bee4c2f808b4a5b43b4224517f294a3ef21cd4a8ea8ce", func := "loop.example/pub-g01453/laws.FnBasicArgument", spec := "fnBasicArgument", inPlace := ["internal/abi.NoEscape"], unfollowed := true, recurses := true, named := ["loop.example/pub-g01453/pub/rustdemangle.rustBasicTypes", "loop.example/pub-g01453/pub/rustdemangle.ErrNotMangledName", "internal/strconv.uint64pow10", "math/bits.deBruijn32tab", "math/bits.deBruijn64tab"], maps := true, ifaces := true, apart := false, laid := [("math/bits.deBruijn32tab", laid_math_bits_deBruijn32tab), ("math/bits.deBruijn64tab", laid_math_bits_deBruijn64tab), ("internal/strconv.uint64pow10", laid_internal_strconv_uint64pow10), ("loop.example/pub-g01453/pub/rustdemangle.ErrNotMangledName", laid_loop_example_pub_g01453_pub_rustdemangle_ErrNotMangledName), ("loop.example/pub-g01453/pub/rustdemangle.rustBasicTypes", laid_loop_example_pub_g01453_pub_rustdemangle_rustBasicTypes)] }
def FnBasicArgumentSaid : Prop := fnBasicArgumentRow.holds Tryd.pinned (OpenSpec.ofChange fnBasicArgumentSpec)

/-- ITS FALSE NEIGHBOUR: 'it returns false'. Refute it at one input. -/
def fnBasicArgumentWrong : ChangeSpec := { name := "fnBasicArgument", vars := ["loop.example/pub-g01453/pub/rustdemangle.rustBasicTypes", "loop.example/pub-g01453/pub/rustdemangle.ErrNotMangledName"], fn := fun _ => fun
  | [d, g1, g2] => { results := [.lit (.bool false)], args := [d], vars := [g1, g2] }
  | _ => none }
def FnBasicArgumentWrongFalsely : Prop := fnBasicArgumentRow.holds Tryd.pinned (OpenSpec.ofChange fnBasicArgumentWrong)

/- THE SECOND FORM. 'bulk': how many values and letters a reading holds, each counted each time it is reached (what is shared counts as often as it is met; a slice's spare places count too). A statement '..UptoSaid' is the law's where the arguments, and the package variables that the reading takes, are together of bulk at most 1048576: NARROWER than '..Said'. Prove '..Said' where nothing that the law and all that it calls make is longer than what came in: it says more and counts as full. Else prove '..UptoSaid'. A law counts once. -/
mutual
def uptoBulk {H : Type} : DataW H → Nat
  | .lit (.string bytes) => bytes.length + 1
  | .lit _ => 1
  | .nil => 1
  | .ptr d => uptoBulk d + 1
  | .slice elems spare => uptoBulkAll elems + uptoBulkAll spare + 1
  | .agg parts => uptoBulkAll parts + 1
  | .iface _ d => uptoBulk d + 1
  | .map entries => uptoBulkEntries entries + 1
  | .held _ => 1
def uptoBulkAll {H : Type} : List (DataW H) → Nat
  | [] => 0
  | d :: r => uptoBulk d + uptoBulkAll r
def uptoBulkEntries {H : Type} : List (Lit × DataW H) → Nat
  | [] => 0
  | x :: r => uptoBulkEntry x + uptoBulkEntries r
def uptoBulkEntry {H : Type} : Lit × DataW H → Nat
  | (.string bytes, d) => bytes.length + uptoBulk d + 1
  | (_, d) => uptoBulk d + 1
 end
def uptoSmall : (H : Type) → List (DataW H) → Bool := fun _ ds => decide (uptoBulkAll ds ≤ 1048576)
def OpenSpec.upto (s : _root_.Go.ChangeSpec) : _root_.Go.OpenSpec := { _root_.Go.OpenSpec.ofChange s with cond := some uptoSmall }

/-- 'laws.FnLegacyHashUnseen', WHERE WHAT IT READS IS OF BULK AT MOST 1048576: true; the input reads as it did. -/
def fnLegacyHashUnseenUptoRow : OpenClaim := { program := "ytokjbdofpdncdaadoor", sum := "f3d226800b249588671bee4c2f808b4a5b43b4224517f294a3ef21cd4a8ea8ce", func := "loop.example/pub-g01453/laws.FnLegacyHashUnseen", spec := "fnLegacyHashUnseen", inPlace := ["internal/abi.NoEscape"], unfollowed := true, recurses := true, named := ["internal/strconv.uint64pow10", "math/bits.deBruijn32tab", "math/bits.deBruijn64tab"], apart := false, laid := [("math/bits.deBruijn32tab", laid_math_bits_deBruijn32tab), ("math/bits.deBruijn64tab", laid_math_bits_deBruijn64tab), ("internal/strconv.uint64pow10", laid_internal_strconv_uint64pow10)], narrowed := true }
def FnLegacyHashUnseenUptoSaid : Prop := fnLegacyHashUnseenUptoRow.holds Tryd.pinned (OpenSpec.upto fnLegacyHashUnseenSpec)

/-- 'laws.FnConstantMade', WHERE WHAT IT READS IS OF BULK AT MOST 1048576: true; the input reads as it did. -/
def fnConstantMadeUptoRow : OpenClaim := { program := "ytokjbdofpdncdaadoor", sum := "f3d226800b249588671bee4c2f808b4a5b43b4224517f294a3ef21cd4a8ea8ce", func := "loop.example/pub-g01453/laws.FnConstantMade", spec := "fnConstantMade", inPlace := ["internal/abi.NoEscape"], unfollowed := true, recurses := true, named := ["unicode/utf8.first", "unicode/utf8.acceptRanges", "internal/strconv.uint64pow10", "math/bits.deBruijn32tab", "math/bits.deBruijn64tab"], loops := true, apart := false, laid := [("math/bits.deBruijn32tab", laid_math_bits_deBruijn32tab), ("math/bits.deBruijn64tab", laid_math_bits_deBruijn64tab), ("internal/strconv.uint64pow10", laid_internal_strconv_uint64pow10), ("unicode/utf8.acceptRanges", laid_unicode_utf8_acceptRanges), ("unicode/utf8.first", laid_unicode_utf8_first)], narrowed := true }
def FnConstantMadeUptoSaid : Prop := fnConstantMadeUptoRow.holds Tryd.pinned (OpenSpec.upto fnConstantMadeSpec)

/-- 'laws.FnBasicArgument', WHERE WHAT IT READS IS OF BULK AT MOST 1048576: true; the input reads as it did. -/
def fnBasicArgumentUptoRow : OpenClaim := { program := "ytokjbdofpdncdaadoor", sum := "f3d226800b249588671bee4c2f808b4a5b43b4224517f294a3ef21cd4a8ea8ce", func := "loop.example/pub-g01453/laws.FnBasicArgument", spec := "fnBasicArgument", inPlace := ["internal/abi.NoEscape"], unfollowed := true, recurses := true, named := ["loop.example/pub-g01453/pub/rustdemangle.rustBasicTypes", "loop.example/pub-g01453/pub/rustdemangle.ErrNotMangledName", "internal/strconv.uint64pow10", "math/bits.deBruijn32tab", "math/bits.deBruijn64tab"], maps := true, ifaces := true, apart := false, laid := [("math/bits.deBruijn32tab", laid_math_bits_deBruijn32tab), ("math/bits.deBruijn64tab", laid_math_bits_deBruijn64tab), ("internal/strconv.uint64pow10", laid_internal_strconv_uint64pow10), ("loop.example/pub-g01453/pub/rustdemangle.ErrNotMangledName", laid_loop_example_pub_g01453_pub_rustdemangle_ErrNotMangledName), ("loop.example/pub-g01453/pub/rustdemangle.rustBasicTypes", laid_loop_example_pub_g01453_pub_rustdemangle_rustBasicTypes)], narrowed := true }
def FnBasicArgumentUptoSaid : Prop := fnBasicArgumentUptoRow.holds Tryd.pinned (OpenSpec.upto fnBasicArgumentSpec)

end Rows
end Go.Proofs.YtokjbdofpdncdaaDoor
