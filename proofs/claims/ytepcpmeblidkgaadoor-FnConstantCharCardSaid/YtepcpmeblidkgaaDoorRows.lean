/-
  NARROWER THAN 'FOR EVERY INPUT', by the rows' own cells (each row's printed sentence says how): FnLegacyEscape: laid · FnLegacyHashUnseen: laid · FnLegacyLonger: laid · FnLegacyRead: laid · FnLegacyTwo: laid · FnConstantEnds: laid · FnConstantGreatest: laid · FnConstantReference: laid · FnConstantZero: laid · FnConstantChar: laid · FnConstantUnsigned: laid · FnConstantMade: loops, laid.
  DERIVED. THE GIVEN ROWS OF THIS SEAT. 12 by the template 'for every input the law returns true; each argument reads behind the call as it read before'; 0 by the template 'total and deterministic' (their statements: YtepcpmeblidkgaaDoorTotals.lean).
  GIVEN WITH THE SEED: the statements are not yours to turn. If you find one false, say at which input.
  Laid BY PROGRAM, IN A SANDBOX (cutbox-rows.mjs): the forced cells as the released guide's own fill.sh prints them over the translation f1e6ebd82fc5d4ac… (all of the seat's roots in one cut). By AI agents, Wed Nov 11 2026. No macro, syntax, notation, axiom, sorry.
-/
import Derived.Test.YtepcpmeblidkgaaDoorChecked
import GoSem.PinnedTables
import GoSem.Claim
import GoSem.ClaimJoined
import GoSem.ClaimMapViews
import Derived.JoinedTies
import Derived.KernelRfl
namespace Go.Proofs.YtepcpmeblidkgaaDoor
/- THE CELL 'sum', in the pinned program and in every row, IS THE sha256 OF THE DUMP (.gsa) THAT YtepcpmeblidkgaaDoorProg.lean LOADS. Nothing in Lean hashes anything: it is a label: what it is worth is what the hold of that sum in a sandbox is worth. -/
noncomputable def Tryd.pinned : Pinned := { name := "ytepcpmeblidkgaadoor", sum := "f1e6ebd82fc5d4ac9e5f18a2b0bd11c9cede8699f0a48df0ce8fe257ce959196", checked := Tryd.checked }
namespace Rows
def none {H : Type} : Left H := { results := [], args := [] }

/- WHAT THE LISTED PACKAGE-LEVEL VARIABLES READ AS WHEN THE CALL BEGINS. Each datum BY PROGRAM (the guide's laid-datum.mjs) off the statement by which the dump's own 'gosem.cut.vars' lays the variable. In a bare row this is a premise. The card (YtepcpmeblidkgaaDoorCards.lean) ties it to the program's text. -/
def laid_math_bits_deBruijn32tab {H : Type} : DataW H := .agg [.lit (.int .u8 0), .lit (.int .u8 1), .lit (.int .u8 28), .lit (.int .u8 2), .lit (.int .u8 29), .lit (.int .u8 14), .lit (.int .u8 24), .lit (.int .u8 3), .lit (.int .u8 30), .lit (.int .u8 22), .lit (.int .u8 20), .lit (.int .u8 15), .lit (.int .u8 25), .lit (.int .u8 17), .lit (.int .u8 4), .lit (.int .u8 8), .lit (.int .u8 31), .lit (.int .u8 27), .lit (.int .u8 13), .lit (.int .u8 23), .lit (.int .u8 21), .lit (.int .u8 19), .lit (.int .u8 16), .lit (.int .u8 7), .lit (.int .u8 26), .lit (.int .u8 12), .lit (.int .u8 18), .lit (.int .u8 6), .lit (.int .u8 11), .lit (.int .u8 5), .lit (.int .u8 10), .lit (.int .u8 9)]
def laid_math_bits_deBruijn64tab {H : Type} : DataW H := .agg [.lit (.int .u8 0), .lit (.int .u8 1), .lit (.int .u8 56), .lit (.int .u8 2), .lit (.int .u8 57), .lit (.int .u8 49), .lit (.int .u8 28), .lit (.int .u8 3), .lit (.int .u8 61), .lit (.int .u8 58), .lit (.int .u8 42), .lit (.int .u8 50), .lit (.int .u8 38), .lit (.int .u8 29), .lit (.int .u8 17), .lit (.int .u8 4), .lit (.int .u8 62), .lit (.int .u8 47), .lit (.int .u8 59), .lit (.int .u8 36), .lit (.int .u8 45), .lit (.int .u8 43), .lit (.int .u8 51), .lit (.int .u8 22), .lit (.int .u8 53), .lit (.int .u8 39), .lit (.int .u8 33), .lit (.int .u8 30), .lit (.int .u8 24), .lit (.int .u8 18), .lit (.int .u8 12), .lit (.int .u8 5), .lit (.int .u8 63), .lit (.int .u8 55), .lit (.int .u8 48), .lit (.int .u8 27), .lit (.int .u8 60), .lit (.int .u8 41), .lit (.int .u8 37), .lit (.int .u8 16), .lit (.int .u8 46), .lit (.int .u8 35), .lit (.int .u8 44), .lit (.int .u8 21), .lit (.int .u8 52), .lit (.int .u8 32), .lit (.int .u8 23), .lit (.int .u8 11), .lit (.int .u8 54), .lit (.int .u8 26), .lit (.int .u8 40), .lit (.int .u8 15), .lit (.int .u8 34), .lit (.int .u8 20), .lit (.int .u8 31), .lit (.int .u8 10), .lit (.int .u8 25), .lit (.int .u8 14), .lit (.int .u8 19), .lit (.int .u8 9), .lit (.int .u8 13), .lit (.int .u8 8), .lit (.int .u8 7), .lit (.int .u8 6)]
def laid_internal_strconv_uint64pow10 {H : Type} : DataW H := .agg [.lit (.int .u64 1), .lit (.int .u64 10), .lit (.int .u64 100), .lit (.int .u64 1000), .lit (.int .u64 10000), .lit (.int .u64 100000), .lit (.int .u64 1000000), .lit (.int .u64 10000000), .lit (.int .u64 100000000), .lit (.int .u64 1000000000), .lit (.int .u64 10000000000), .lit (.int .u64 100000000000), .lit (.int .u64 1000000000000), .lit (.int .u64 10000000000000), .lit (.int .u64 100000000000000), .lit (.int .u64 1000000000000000), .lit (.int .u64 10000000000000000), .lit (.int .u64 100000000000000000), .lit (.int .u64 1000000000000000000), .lit (.int .u64 10000000000000000000)]
def laid_unicode_utf8_acceptRanges {H : Type} : DataW H := .agg [.agg [.lit (.int .u8 128), .lit (.int .u8 191)], .agg [.lit (.int .u8 160), .lit (.int .u8 191)], .agg [.lit (.int .u8 128), .lit (.int .u8 159)], .agg [.lit (.int .u8 144), .lit (.int .u8 191)], .agg [.lit (.int .u8 128), .lit (.int .u8 143)], .agg [.lit (.int .u8 0), .lit (.int .u8 0)], .agg [.lit (.int .u8 0), .lit (.int .u8 0)], .agg [.lit (.int .u8 0), .lit (.int .u8 0)], .agg [.lit (.int .u8 0), .lit (.int .u8 0)], .agg [.lit (.int .u8 0), .lit (.int .u8 0)], .agg [.lit (.int .u8 0), .lit (.int .u8 0)], .agg [.lit (.int .u8 0), .lit (.int .u8 0)], .agg [.lit (.int .u8 0), .lit (.int .u8 0)], .agg [.lit (.int .u8 0), .lit (.int .u8 0)], .agg [.lit (.int .u8 0), .lit (.int .u8 0)], .agg [.lit (.int .u8 0), .lit (.int .u8 0)]]
/-- One of Go's own tables, pinned by name: the form's constant. -/
def laid_unicode_utf8_first : DataW Unit := Go.Pinned.utf8First

/-- 'laws.FnLegacyEscape': WHATEVER THE INPUT: true; the input reads as it did. -/
def fnLegacyEscapeSpec : ChangeSpec := { name := "fnLegacyEscape", fn := fun _ => fun
  | [d1, d2, d3, d4] => { results := [.lit (.bool true)], args := [d1, d2, d3, d4] }
  | _ => none }
def fnLegacyEscapeRow : OpenClaim := { program := "ytepcpmeblidkgaadoor", sum := "f1e6ebd82fc5d4ac9e5f18a2b0bd11c9cede8699f0a48df0ce8fe257ce959196", func := "loop.example/pub-g01453/laws.FnLegacyEscape", spec := "fnLegacyEscape", inPlace := ["internal/abi.NoEscape"], unfollowed := true, recurses := true, named := ["internal/strconv.uint64pow10", "math/bits.deBruijn32tab", "math/bits.deBruijn64tab"], apart := false, laid := [("math/bits.deBruijn32tab", laid_math_bits_deBruijn32tab), ("math/bits.deBruijn64tab", laid_math_bits_deBruijn64tab), ("internal/strconv.uint64pow10", laid_internal_strconv_uint64pow10)] }
def FnLegacyEscapeSaid : Prop := fnLegacyEscapeRow.holds Tryd.pinned (OpenSpec.ofChange fnLegacyEscapeSpec)

/-- ITS FALSE NEIGHBOUR: 'it returns false'. Refute it at one input. -/
def fnLegacyEscapeWrong : ChangeSpec := { name := "fnLegacyEscape", fn := fun _ => fun
  | [d1, d2, d3, d4] => { results := [.lit (.bool false)], args := [d1, d2, d3, d4] }
  | _ => none }
def FnLegacyEscapeWrongFalsely : Prop := fnLegacyEscapeRow.holds Tryd.pinned (OpenSpec.ofChange fnLegacyEscapeWrong)

/-- 'laws.FnLegacyHashUnseen': WHATEVER THE INPUT: true; the input reads as it did. -/
def fnLegacyHashUnseenSpec : ChangeSpec := { name := "fnLegacyHashUnseen", fn := fun _ => fun
  | [d1, d2, d3] => { results := [.lit (.bool true)], args := [d1, d2, d3] }
  | _ => none }
def fnLegacyHashUnseenRow : OpenClaim := { program := "ytepcpmeblidkgaadoor", sum := "f1e6ebd82fc5d4ac9e5f18a2b0bd11c9cede8699f0a48df0ce8fe257ce959196", func := "loop.example/pub-g01453/laws.FnLegacyHashUnseen", spec := "fnLegacyHashUnseen", inPlace := ["internal/abi.NoEscape"], unfollowed := true, recurses := true, named := ["internal/strconv.uint64pow10", "math/bits.deBruijn32tab", "math/bits.deBruijn64tab"], apart := false, laid := [("math/bits.deBruijn32tab", laid_math_bits_deBruijn32tab), ("math/bits.deBruijn64tab", laid_math_bits_deBruijn64tab), ("internal/strconv.uint64pow10", laid_internal_strconv_uint64pow10)] }
def FnLegacyHashUnseenSaid : Prop := fnLegacyHashUnseenRow.holds Tryd.pinned (OpenSpec.ofChange fnLegacyHashUnseenSpec)

/-- ITS FALSE NEIGHBOUR: 'it returns false'. Refute it at one input. -/
def fnLegacyHashUnseenWrong : ChangeSpec := { name := "fnLegacyHashUnseen", fn := fun _ => fun
  | [d1, d2, d3] => { results := [.lit (.bool false)], args := [d1, d2, d3] }
  | _ => none }
def FnLegacyHashUnseenWrongFalsely : Prop := fnLegacyHashUnseenRow.holds Tryd.pinned (OpenSpec.ofChange fnLegacyHashUnseenWrong)

/-- 'laws.FnLegacyLonger': WHATEVER THE INPUT: true; the input reads as it did. -/
def fnLegacyLongerSpec : ChangeSpec := { name := "fnLegacyLonger", fn := fun _ => fun
  | [d1, d2, d3] => { results := [.lit (.bool true)], args := [d1, d2, d3] }
  | _ => none }
def fnLegacyLongerRow : OpenClaim := { program := "ytepcpmeblidkgaadoor", sum := "f1e6ebd82fc5d4ac9e5f18a2b0bd11c9cede8699f0a48df0ce8fe257ce959196", func := "loop.example/pub-g01453/laws.FnLegacyLonger", spec := "fnLegacyLonger", inPlace := ["internal/abi.NoEscape"], unfollowed := true, recurses := true, named := ["internal/strconv.uint64pow10", "math/bits.deBruijn32tab", "math/bits.deBruijn64tab"], apart := false, laid := [("math/bits.deBruijn32tab", laid_math_bits_deBruijn32tab), ("math/bits.deBruijn64tab", laid_math_bits_deBruijn64tab), ("internal/strconv.uint64pow10", laid_internal_strconv_uint64pow10)] }
def FnLegacyLongerSaid : Prop := fnLegacyLongerRow.holds Tryd.pinned (OpenSpec.ofChange fnLegacyLongerSpec)

/-- ITS FALSE NEIGHBOUR: 'it returns false'. Refute it at one input. -/
def fnLegacyLongerWrong : ChangeSpec := { name := "fnLegacyLonger", fn := fun _ => fun
  | [d1, d2, d3] => { results := [.lit (.bool false)], args := [d1, d2, d3] }
  | _ => none }
def FnLegacyLongerWrongFalsely : Prop := fnLegacyLongerRow.holds Tryd.pinned (OpenSpec.ofChange fnLegacyLongerWrong)

/-- 'laws.FnLegacyRead': WHATEVER THE INPUT: true; the input reads as it did. -/
def fnLegacyReadSpec : ChangeSpec := { name := "fnLegacyRead", fn := fun _ => fun
  | [d1, d2] => { results := [.lit (.bool true)], args := [d1, d2] }
  | _ => none }
def fnLegacyReadRow : OpenClaim := { program := "ytepcpmeblidkgaadoor", sum := "f1e6ebd82fc5d4ac9e5f18a2b0bd11c9cede8699f0a48df0ce8fe257ce959196", func := "loop.example/pub-g01453/laws.FnLegacyRead", spec := "fnLegacyRead", inPlace := ["internal/abi.NoEscape"], unfollowed := true, recurses := true, named := ["internal/strconv.uint64pow10", "math/bits.deBruijn32tab", "math/bits.deBruijn64tab"], apart := false, laid := [("math/bits.deBruijn32tab", laid_math_bits_deBruijn32tab), ("math/bits.deBruijn64tab", laid_math_bits_deBruijn64tab), ("internal/strconv.uint64pow10", laid_internal_strconv_uint64pow10)] }
def FnLegacyReadSaid : Prop := fnLegacyReadRow.holds Tryd.pinned (OpenSpec.ofChange fnLegacyReadSpec)

/-- ITS FALSE NEIGHBOUR: 'it returns false'. Refute it at one input. -/
def fnLegacyReadWrong : ChangeSpec := { name := "fnLegacyRead", fn := fun _ => fun
  | [d1, d2] => { results := [.lit (.bool false)], args := [d1, d2] }
  | _ => none }
def FnLegacyReadWrongFalsely : Prop := fnLegacyReadRow.holds Tryd.pinned (OpenSpec.ofChange fnLegacyReadWrong)

/-- 'laws.FnLegacyTwo': WHATEVER THE INPUT: true; the input reads as it did. -/
def fnLegacyTwoSpec : ChangeSpec := { name := "fnLegacyTwo", fn := fun _ => fun
  | [d1, d2, d3] => { results := [.lit (.bool true)], args := [d1, d2, d3] }
  | _ => none }
def fnLegacyTwoRow : OpenClaim := { program := "ytepcpmeblidkgaadoor", sum := "f1e6ebd82fc5d4ac9e5f18a2b0bd11c9cede8699f0a48df0ce8fe257ce959196", func := "loop.example/pub-g01453/laws.FnLegacyTwo", spec := "fnLegacyTwo", inPlace := ["internal/abi.NoEscape"], unfollowed := true, recurses := true, named := ["internal/strconv.uint64pow10", "math/bits.deBruijn32tab", "math/bits.deBruijn64tab"], apart := false, laid := [("math/bits.deBruijn32tab", laid_math_bits_deBruijn32tab), ("math/bits.deBruijn64tab", laid_math_bits_deBruijn64tab), ("internal/strconv.uint64pow10", laid_internal_strconv_uint64pow10)] }
def FnLegacyTwoSaid : Prop := fnLegacyTwoRow.holds Tryd.pinned (OpenSpec.ofChange fnLegacyTwoSpec)

/-- ITS FALSE NEIGHBOUR: 'it returns false'. Refute it at one input. -/
def fnLegacyTwoWrong : ChangeSpec := { name := "fnLegacyTwo", fn := fun _ => fun
  | [d1, d2, d3] => { results := [.lit (.bool false)], args := [d1, d2, d3] }
  | _ => none }
def FnLegacyTwoWrongFalsely : Prop := fnLegacyTwoRow.holds Tryd.pinned (OpenSpec.ofChange fnLegacyTwoWrong)

/-- 'laws.FnConstantEnds': WHATEVER THE INPUT: true; the input reads as it did. -/
def fnConstantEndsSpec : ChangeSpec := { name := "fnConstantEnds", fn := fun _ => fun
  | [d1, d2, d3, d4] => { results := [.lit (.bool true)], args := [d1, d2, d3, d4] }
  | _ => none }
def fnConstantEndsRow : OpenClaim := { program := "ytepcpmeblidkgaadoor", sum := "f1e6ebd82fc5d4ac9e5f18a2b0bd11c9cede8699f0a48df0ce8fe257ce959196", func := "loop.example/pub-g01453/laws.FnConstantEnds", spec := "fnConstantEnds", inPlace := ["internal/abi.NoEscape"], unfollowed := true, recurses := true, named := ["internal/strconv.uint64pow10", "math/bits.deBruijn32tab", "math/bits.deBruijn64tab"], apart := false, laid := [("math/bits.deBruijn32tab", laid_math_bits_deBruijn32tab), ("math/bits.deBruijn64tab", laid_math_bits_deBruijn64tab), ("internal/strconv.uint64pow10", laid_internal_strconv_uint64pow10)] }
def FnConstantEndsSaid : Prop := fnConstantEndsRow.holds Tryd.pinned (OpenSpec.ofChange fnConstantEndsSpec)

/-- ITS FALSE NEIGHBOUR: 'it returns false'. Refute it at one input. -/
def fnConstantEndsWrong : ChangeSpec := { name := "fnConstantEnds", fn := fun _ => fun
  | [d1, d2, d3, d4] => { results := [.lit (.bool false)], args := [d1, d2, d3, d4] }
  | _ => none }
def FnConstantEndsWrongFalsely : Prop := fnConstantEndsRow.holds Tryd.pinned (OpenSpec.ofChange fnConstantEndsWrong)

/-- 'laws.FnConstantGreatest': WHATEVER THE INPUT: true; the input reads as it did. -/
def fnConstantGreatestSpec : ChangeSpec := { name := "fnConstantGreatest", fn := fun _ => fun
  | [d1, d2] => { results := [.lit (.bool true)], args := [d1, d2] }
  | _ => none }
def fnConstantGreatestRow : OpenClaim := { program := "ytepcpmeblidkgaadoor", sum := "f1e6ebd82fc5d4ac9e5f18a2b0bd11c9cede8699f0a48df0ce8fe257ce959196", func := "loop.example/pub-g01453/laws.FnConstantGreatest", spec := "fnConstantGreatest", inPlace := ["internal/abi.NoEscape"], unfollowed := true, recurses := true, named := ["internal/strconv.uint64pow10", "math/bits.deBruijn32tab", "math/bits.deBruijn64tab"], apart := false, laid := [("math/bits.deBruijn32tab", laid_math_bits_deBruijn32tab), ("math/bits.deBruijn64tab", laid_math_bits_deBruijn64tab), ("internal/strconv.uint64pow10", laid_internal_strconv_uint64pow10)] }
def FnConstantGreatestSaid : Prop := fnConstantGreatestRow.holds Tryd.pinned (OpenSpec.ofChange fnConstantGreatestSpec)

/-- ITS FALSE NEIGHBOUR: 'it returns false'. Refute it at one input. -/
def fnConstantGreatestWrong : ChangeSpec := { name := "fnConstantGreatest", fn := fun _ => fun
  | [d1, d2] => { results := [.lit (.bool false)], args := [d1, d2] }
  | _ => none }
def FnConstantGreatestWrongFalsely : Prop := fnConstantGreatestRow.holds Tryd.pinned (OpenSpec.ofChange fnConstantGreatestWrong)

/-- 'laws.FnConstantReference': WHATEVER THE INPUT: true; the input reads as it did. -/
def fnConstantReferenceSpec : ChangeSpec := { name := "fnConstantReference", fn := fun _ => fun
  | [d1, d2] => { results := [.lit (.bool true)], args := [d1, d2] }
  | _ => none }
def fnConstantReferenceRow : OpenClaim := { program := "ytepcpmeblidkgaadoor", sum := "f1e6ebd82fc5d4ac9e5f18a2b0bd11c9cede8699f0a48df0ce8fe257ce959196", func := "loop.example/pub-g01453/laws.FnConstantReference", spec := "fnConstantReference", inPlace := ["internal/abi.NoEscape"], unfollowed := true, recurses := true, named := ["internal/strconv.uint64pow10", "math/bits.deBruijn32tab", "math/bits.deBruijn64tab"], apart := false, laid := [("math/bits.deBruijn32tab", laid_math_bits_deBruijn32tab), ("math/bits.deBruijn64tab", laid_math_bits_deBruijn64tab), ("internal/strconv.uint64pow10", laid_internal_strconv_uint64pow10)] }
def FnConstantReferenceSaid : Prop := fnConstantReferenceRow.holds Tryd.pinned (OpenSpec.ofChange fnConstantReferenceSpec)

/-- ITS FALSE NEIGHBOUR: 'it returns false'. Refute it at one input. -/
def fnConstantReferenceWrong : ChangeSpec := { name := "fnConstantReference", fn := fun _ => fun
  | [d1, d2] => { results := [.lit (.bool false)], args := [d1, d2] }
  | _ => none }
def FnConstantReferenceWrongFalsely : Prop := fnConstantReferenceRow.holds Tryd.pinned (OpenSpec.ofChange fnConstantReferenceWrong)

/-- 'laws.FnConstantZero': WHATEVER THE INPUT: true; the input reads as it did. -/
def fnConstantZeroSpec : ChangeSpec := { name := "fnConstantZero", fn := fun _ => fun
  | [d1, d2] => { results := [.lit (.bool true)], args := [d1, d2] }
  | _ => none }
def fnConstantZeroRow : OpenClaim := { program := "ytepcpmeblidkgaadoor", sum := "f1e6ebd82fc5d4ac9e5f18a2b0bd11c9cede8699f0a48df0ce8fe257ce959196", func := "loop.example/pub-g01453/laws.FnConstantZero", spec := "fnConstantZero", inPlace := ["internal/abi.NoEscape"], unfollowed := true, recurses := true, named := ["internal/strconv.uint64pow10", "math/bits.deBruijn32tab", "math/bits.deBruijn64tab"], apart := false, laid := [("math/bits.deBruijn32tab", laid_math_bits_deBruijn32tab), ("math/bits.deBruijn64tab", laid_math_bits_deBruijn64tab), ("internal/strconv.uint64pow10", laid_internal_strconv_uint64pow10)] }
def FnConstantZeroSaid : Prop := fnConstantZeroRow.holds Tryd.pinned (OpenSpec.ofChange fnConstantZeroSpec)

/-- ITS FALSE NEIGHBOUR: 'it returns false'. Refute it at one input. -/
def fnConstantZeroWrong : ChangeSpec := { name := "fnConstantZero", fn := fun _ => fun
  | [d1, d2] => { results := [.lit (.bool false)], args := [d1, d2] }
  | _ => none }
def FnConstantZeroWrongFalsely : Prop := fnConstantZeroRow.holds Tryd.pinned (OpenSpec.ofChange fnConstantZeroWrong)

/-- 'laws.FnConstantChar': WHATEVER THE INPUT: true; the input reads as it did. -/
def fnConstantCharSpec : ChangeSpec := { name := "fnConstantChar", fn := fun _ => fun
  | [d1, d2] => { results := [.lit (.bool true)], args := [d1, d2] }
  | _ => none }
def fnConstantCharRow : OpenClaim := { program := "ytepcpmeblidkgaadoor", sum := "f1e6ebd82fc5d4ac9e5f18a2b0bd11c9cede8699f0a48df0ce8fe257ce959196", func := "loop.example/pub-g01453/laws.FnConstantChar", spec := "fnConstantChar", inPlace := ["internal/abi.NoEscape"], unfollowed := true, recurses := true, named := ["unicode/utf8.first", "unicode/utf8.acceptRanges", "internal/strconv.uint64pow10", "math/bits.deBruijn32tab", "math/bits.deBruijn64tab"], apart := false, laid := [("math/bits.deBruijn32tab", laid_math_bits_deBruijn32tab), ("math/bits.deBruijn64tab", laid_math_bits_deBruijn64tab), ("internal/strconv.uint64pow10", laid_internal_strconv_uint64pow10), ("unicode/utf8.acceptRanges", laid_unicode_utf8_acceptRanges), ("unicode/utf8.first", laid_unicode_utf8_first)] }
def FnConstantCharSaid : Prop := fnConstantCharRow.holds Tryd.pinned (OpenSpec.ofChange fnConstantCharSpec)

/-- ITS FALSE NEIGHBOUR: 'it returns false'. Refute it at one input. -/
def fnConstantCharWrong : ChangeSpec := { name := "fnConstantChar", fn := fun _ => fun
  | [d1, d2] => { results := [.lit (.bool false)], args := [d1, d2] }
  | _ => none }
def FnConstantCharWrongFalsely : Prop := fnConstantCharRow.holds Tryd.pinned (OpenSpec.ofChange fnConstantCharWrong)

/-- 'laws.FnConstantUnsigned': WHATEVER THE INPUT: true; the input reads as it did. -/
def fnConstantUnsignedSpec : ChangeSpec := { name := "fnConstantUnsigned", fn := fun _ => fun
  | [d1, d2, d3] => { results := [.lit (.bool true)], args := [d1, d2, d3] }
  | _ => none }
def fnConstantUnsignedRow : OpenClaim := { program := "ytepcpmeblidkgaadoor", sum := "f1e6ebd82fc5d4ac9e5f18a2b0bd11c9cede8699f0a48df0ce8fe257ce959196", func := "loop.example/pub-g01453/laws.FnConstantUnsigned", spec := "fnConstantUnsigned", inPlace := ["internal/abi.NoEscape"], unfollowed := true, recurses := true, named := ["unicode/utf8.first", "unicode/utf8.acceptRanges", "internal/strconv.uint64pow10", "math/bits.deBruijn32tab", "math/bits.deBruijn64tab"], apart := false, laid := [("math/bits.deBruijn32tab", laid_math_bits_deBruijn32tab), ("math/bits.deBruijn64tab", laid_math_bits_deBruijn64tab), ("internal/strconv.uint64pow10", laid_internal_strconv_uint64pow10), ("unicode/utf8.acceptRanges", laid_unicode_utf8_acceptRanges), ("unicode/utf8.first", laid_unicode_utf8_first)] }
def FnConstantUnsignedSaid : Prop := fnConstantUnsignedRow.holds Tryd.pinned (OpenSpec.ofChange fnConstantUnsignedSpec)

/-- ITS FALSE NEIGHBOUR: 'it returns false'. Refute it at one input. -/
def fnConstantUnsignedWrong : ChangeSpec := { name := "fnConstantUnsigned", fn := fun _ => fun
  | [d1, d2, d3] => { results := [.lit (.bool false)], args := [d1, d2, d3] }
  | _ => none }
def FnConstantUnsignedWrongFalsely : Prop := fnConstantUnsignedRow.holds Tryd.pinned (OpenSpec.ofChange fnConstantUnsignedWrong)

/-- 'laws.FnConstantMade': WHATEVER THE INPUT: true; the input reads as it did. -/
def fnConstantMadeSpec : ChangeSpec := { name := "fnConstantMade", fn := fun _ => fun
  | [d1, d2] => { results := [.lit (.bool true)], args := [d1, d2] }
  | _ => none }
def fnConstantMadeRow : OpenClaim := { program := "ytepcpmeblidkgaadoor", sum := "f1e6ebd82fc5d4ac9e5f18a2b0bd11c9cede8699f0a48df0ce8fe257ce959196", func := "loop.example/pub-g01453/laws.FnConstantMade", spec := "fnConstantMade", inPlace := ["internal/abi.NoEscape"], unfollowed := true, recurses := true, named := ["unicode/utf8.first", "unicode/utf8.acceptRanges", "internal/strconv.uint64pow10", "math/bits.deBruijn32tab", "math/bits.deBruijn64tab"], loops := true, apart := false, laid := [("math/bits.deBruijn32tab", laid_math_bits_deBruijn32tab), ("math/bits.deBruijn64tab", laid_math_bits_deBruijn64tab), ("internal/strconv.uint64pow10", laid_internal_strconv_uint64pow10), ("unicode/utf8.acceptRanges", laid_unicode_utf8_acceptRanges), ("unicode/utf8.first", laid_unicode_utf8_first)] }
def FnConstantMadeSaid : Prop := fnConstantMadeRow.holds Tryd.pinned (OpenSpec.ofChange fnConstantMadeSpec)

/-- ITS FALSE NEIGHBOUR: 'it returns false'. Refute it at one input. -/
def fnConstantMadeWrong : ChangeSpec := { name := "fnConstantMade", fn := fun _ => fun
  | [d1, d2] => { results := [.lit (.bool false)], args := [d1, d2] }
  | _ => none }
def FnConstantMadeWrongFalsely : Prop := fnConstantMadeRow.holds Tryd.pinned (OpenSpec.ofChange fnConstantMadeWrong)

/- THE SECOND FORM. 'bulk': how many values and letters a reading holds, each counted each time it is reached (what is shared counts as often as it is met; a slice's spare places count too). A statement '..UptoSaid' is the law's where the arguments, and the package variables that the reading takes, are together of bulk at most 1048576: NARROWER than '..Said'. Prove '..Said' where nothing that the law and all that it calls make is longer than what came in: it says more and counts as full. Else prove '..UptoSaid'. A law counts once. -/
mutual
def uptoBulk {H : Type} : DataW H → Nat
  | .lit (.string bytes) => bytes.length + 1
  | .lit _ => 1
  | .nil => 1
  | .ptr d => uptoBulk d + 1
  | .slice elems spare => uptoBulkAll elems + uptoBulkAll spare + 1
  | .agg parts => uptoBulkAll parts + 1
  | .iface _ d => uptoBulk d + 1
  | .map entries => uptoBulkEntries entries + 1
  | .held _ => 1
def uptoBulkAll {H : Type} : List (DataW H) → Nat
  | [] => 0
  | d :: r => uptoBulk d + uptoBulkAll r
def uptoBulkEntries {H : Type} : List (Lit × DataW H) → Nat
  | [] => 0
  | x :: r => uptoBulkEntry x + uptoBulkEntries r
def uptoBulkEntry {H : Type} : Lit × DataW H → Nat
  | (.string bytes, d) => bytes.length + uptoBulk d + 1
  | (_, d) => uptoBulk d + 1
 end
def uptoSmall : (H : Type) → List (DataW H) → Bool := fun _ ds => decide (uptoBulkAll ds ≤ 1048576)
def OpenSpec.upto (s : _root_.Go.ChangeSpec) : _root_.Go.OpenSpec := { _root_.Go.OpenSpec.ofChange s with cond := some uptoSmall }

/-- 'laws.FnLegacyEscape', WHERE WHAT IT READS IS OF BULK AT MOST 1048576: true; the input reads as it did. -/
def fnLegacyEscapeUptoRow : OpenClaim := { program := "ytepcpmeblidkgaadoor", sum := "f1e6ebd82fc5d4ac9e5f18a2b0bd11c9cede8699f0a48df0ce8fe257ce959196", func := "loop.example/pub-g01453/laws.FnLegacyEscape", spec := "fnLegacyEscape", inPlace := ["internal/abi.NoEscape"], unfollowed := true, recurses := true, named := ["internal/strconv.uint64pow10", "math/bits.deBruijn32tab", "math/bits.deBruijn64tab"], apart := false, laid := [("math/bits.deBruijn32tab", laid_math_bits_deBruijn32tab), ("math/bits.deBruijn64tab", laid_math_bits_deBruijn64tab), ("internal/strconv.uint64pow10", laid_internal_strconv_uint64pow10)], narrowed := true }
def FnLegacyEscapeUptoSaid : Prop := fnLegacyEscapeUptoRow.holds Tryd.pinned (OpenSpec.upto fnLegacyEscapeSpec)

/-- 'laws.FnLegacyHashUnseen', WHERE WHAT IT READS IS OF BULK AT MOST 1048576: true; the input reads as it did. -/
def fnLegacyHashUnseenUptoRow : OpenClaim := { program := "ytepcpmeblidkgaadoor", sum := "f1e6ebd82fc5d4ac9e5f18a2b0bd11c9cede8699f0a48df0ce8fe257ce959196", func := "loop.example/pub-g01453/laws.FnLegacyHashUnseen", spec := "fnLegacyHashUnseen", inPlace := ["internal/abi.NoEscape"], unfollowed := true, recurses := true, named := ["internal/strconv.uint64pow10", "math/bits.deBruijn32tab", "math/bits.deBruijn64tab"], apart := false, laid := [("math/bits.deBruijn32tab", laid_math_bits_deBruijn32tab), ("math/bits.deBruijn64tab", laid_math_bits_deBruijn64tab), ("internal/strconv.uint64pow10", laid_internal_strconv_uint64pow10)], narrowed := true }
def FnLegacyHashUnseenUptoSaid : Prop := fnLegacyHashUnseenUptoRow.holds Tryd.pinned (OpenSpec.upto fnLegacyHashUnseenSpec)

/-- 'laws.FnLegacyLonger', WHERE WHAT IT READS IS OF BULK AT MOST 1048576: true; the input reads as it did. -/
def fnLegacyLongerUptoRow : OpenClaim := { program := "ytepcpmeblidkgaadoor", sum := "f1e6ebd82fc5d4ac9e5f18a2b0bd11c9cede8699f0a48df0ce8fe257ce959196", func := "loop.example/pub-g01453/laws.FnLegacyLonger", spec := "fnLegacyLonger", inPlace := ["internal/abi.NoEscape"], unfollowed := true, recurses := true, named := ["internal/strconv.uint64pow10", "math/bits.deBruijn32tab", "math/bits.deBruijn64tab"], apart := false, laid := [("math/bits.deBruijn32tab", laid_math_bits_deBruijn32tab), ("math/bits.deBruijn64tab", laid_math_bits_deBruijn64tab), ("internal/strconv.uint64pow10", laid_internal_strconv_uint64pow10)], narrowed := true }
def FnLegacyLongerUptoSaid : Prop := fnLegacyLongerUptoRow.holds Tryd.pinned (OpenSpec.upto fnLegacyLongerSpec)

/-- 'laws.FnLegacyRead', WHERE WHAT IT READS IS OF BULK AT MOST 1048576: true; the input reads as it did. -/
def fnLegacyReadUptoRow : OpenClaim := { program := "ytepcpmeblidkgaadoor", sum := "f1e6ebd82fc5d4ac9e5f18a2b0bd11c9cede8699f0a48df0ce8fe257ce959196", func := "loop.example/pub-g01453/laws.FnLegacyRead", spec := "fnLegacyRead", inPlace := ["internal/abi.NoEscape"], unfollowed := true, recurses := true, named := ["internal/strconv.uint64pow10", "math/bits.deBruijn32tab", "math/bits.deBruijn64tab"], apart := false, laid := [("math/bits.deBruijn32tab", laid_math_bits_deBruijn32tab), ("math/bits.deBruijn64tab", laid_math_bits_deBruijn64tab), ("internal/strconv.uint64pow10", laid_internal_strconv_uint64pow10)], narrowed := true }
def FnLegacyReadUptoSaid : Prop := fnLegacyReadUptoRow.holds Tryd.pinned (OpenSpec.upto fnLegacyReadSpec)

/-- 'laws.FnLegacyTwo', WHERE WHAT IT READS IS OF BULK AT MOST 1048576: true; the input reads as it did. -/
def fnLegacyTwoUptoRow : OpenClaim := { program := "ytepcpmeblidkgaadoor", sum := "f1e6ebd82fc5d4ac9e5f18a2b0bd11c9cede8699f0a48df0ce8fe257ce959196", func := "loop.example/pub-g01453/laws.FnLegacyTwo", spec := "fnLegacyTwo", inPlace := ["internal/abi.NoEscape"], unfollowed := true, recurses := true, named := ["internal/strconv.uint64pow10", "math/bits.deBruijn32tab", "math/bits.deBruijn64tab"], apart := false, laid := [("math/bits.deBruijn32tab", laid_math_bits_deBruijn32tab), ("math/bits.deBruijn64tab", laid_math_bits_deBruijn64tab), ("internal/strconv.uint64pow10", laid_internal_strconv_uint64pow10)], narrowed := true }
def FnLegacyTwoUptoSaid : Prop := fnLegacyTwoUptoRow.holds Tryd.pinned (OpenSpec.upto fnLegacyTwoSpec)

/-- 'laws.FnConstantEnds', WHERE WHAT IT READS IS OF BULK AT MOST 1048576: true; the input reads as it did. -/
def fnConstantEndsUptoRow : OpenClaim := { program := "ytepcpmeblidkgaadoor", sum := "f1e6ebd82fc5d4ac9e5f18a2b0bd11c9cede8699f0a48df0ce8fe257ce959196", func := "loop.example/pub-g01453/laws.FnConstantEnds", spec := "fnConstantEnds", inPlace := ["internal/abi.NoEscape"], unfollowed := true, recurses := true, named := ["internal/strconv.uint64pow10", "math/bits.deBruijn32tab", "math/bits.deBruijn64tab"], apart := false, laid := [("math/bits.deBruijn32tab", laid_math_bits_deBruijn32tab), ("math/bits.deBruijn64tab", laid_math_bits_deBruijn64tab), ("internal/strconv.uint64pow10", laid_internal_strconv_uint64pow10)], narrowed := true }
def FnConstantEndsUptoSaid : Prop := fnConstantEndsUptoRow.holds Tryd.pinned (OpenSpec.upto fnConstantEndsSpec)

/-- 'laws.FnConstantGreatest', WHERE WHAT IT READS IS OF BULK AT MOST 1048576: true; the input reads as it did. -/
def fnConstantGreatestUptoRow : OpenClaim := { program := "ytepcpmeblidkgaadoor", sum := "f1e6ebd82fc5d4ac9e5f18a2b0bd11c9cede8699f0a48df0ce8fe257ce959196", func := "loop.example/pub-g01453/laws.FnConstantGreatest", spec := "fnConstantGreatest", inPlace := ["internal/abi.NoEscape"], unfollowed := true, recurses := true, named := ["internal/strconv.uint64pow10", "math/bits.deBruijn32tab", "math/bits.deBruijn64tab"], apart := false, laid := [("math/bits.deBruijn32tab", laid_math_bits_deBruijn32tab), ("math/bits.deBruijn64tab", laid_math_bits_deBruijn64tab), ("internal/strconv.uint64pow10", laid_internal_strconv_uint64pow10)], narrowed := true }
def FnConstantGreatestUptoSaid : Prop := fnConstantGreatestUptoRow.holds Tryd.pinned (OpenSpec.upto fnConstantGreatestSpec)

/-- 'laws.FnConstantReference', WHERE WHAT IT READS IS OF BULK AT MOST 1048576: true; the input reads as it did. -/
def fnConstantReferenceUptoRow : OpenClaim := { program := "ytepcpmeblidkgaadoor", sum := "f1e6ebd82fc5d4ac9e5f18a2b0bd11c9cede8699f0a48df0ce8fe257ce959196", func := "loop.example/pub-g01453/laws.FnConstantReference", spec := "fnConstantReference", inPlace := ["internal/abi.NoEscape"], unfollowed := true, recurses := true, named := ["internal/strconv.uint64pow10", "math/bits.deBruijn32tab", "math/bits.deBruijn64tab"], apart := false, laid := [("math/bits.deBruijn32tab", laid_math_bits_deBruijn32tab), ("math/bits.deBruijn64tab", laid_math_bits_deBruijn64tab), ("internal/strconv.uint64pow10", laid_internal_strconv_uint64pow10)], narrowed := true }
def FnConstantReferenceUptoSaid : Prop := fnConstantReferenceUptoRow.holds Tryd.pinned (OpenSpec.upto fnConstantReferenceSpec)

/-- 'laws.FnConstantZero', WHERE WHAT IT READS IS OF BULK AT MOST 1048576: true; the input reads as it did. -/
def fnConstantZeroUptoRow : OpenClaim := { program := "ytepcpmeblidkgaadoor", sum := "f1e6ebd82fc5d4ac9e5f18a2b0bd11c9cede8699f0a48df0ce8fe257ce959196", func := "loop.example/pub-g01453/laws.FnConstantZero", spec := "fnConstantZero", inPlace := ["internal/abi.NoEscape"], unfollowed := true, recurses := true, named := ["internal/strconv.uint64pow10", "math/bits.deBruijn32tab", "math/bits.deBruijn64tab"], apart := false, laid := [("math/bits.deBruijn32tab", laid_math_bits_deBruijn32tab), ("math/bits.deBruijn64tab", laid_math_bits_deBruijn64tab), ("internal/strconv.uint64pow10", laid_internal_strconv_uint64pow10)], narrowed := true }
def FnConstantZeroUptoSaid : Prop := fnConstantZeroUptoRow.holds Tryd.pinned (OpenSpec.upto fnConstantZeroSpec)

/-- 'laws.FnConstantChar', WHERE WHAT IT READS IS OF BULK AT MOST 1048576: true; the input reads as it did. -/
def fnConstantCharUptoRow : OpenClaim := { program := "ytepcpmeblidkgaadoor", sum := "f1e6ebd82fc5d4ac9e5f18a2b0bd11c9cede8699f0a48df0ce8fe257ce959196", func := "loop.example/pub-g01453/laws.FnConstantChar", spec := "fnConstantChar", inPlace := ["internal/abi.NoEscape"], unfollowed := true, recurses := true, named := ["unicode/utf8.first", "unicode/utf8.acceptRanges", "internal/strconv.uint64pow10", "math/bits.deBruijn32tab", "math/bits.deBruijn64tab"], apart := false, laid := [("math/bits.deBruijn32tab", laid_math_bits_deBruijn32tab), ("math/bits.deBruijn64tab", laid_math_bits_deBruijn64tab), ("internal/strconv.uint64pow10", laid_internal_strconv_uint64pow10), ("unicode/utf8.acceptRanges", laid_unicode_utf8_acceptRanges), ("unicode/utf8.first", laid_unicode_utf8_first)], narrowed := true }
def FnConstantCharUptoSaid : Prop := fnConstantCharUptoRow.holds Tryd.pinned (OpenSpec.upto fnConstantCharSpec)

/-- 'laws.FnConstantUnsigned', WHERE WHAT IT READS IS OF BULK AT MOST 1048576: true; the input reads as it did. -/
def fnConstantUnsignedUptoRow : OpenClaim := { program := "ytepcpmeblidkgaadoor", sum := "f1e6ebd82fc5d4ac9e5f18a2b0bd11c9cede8699f0a48df0ce8fe257ce959196", func := "loop.example/pub-g01453/laws.FnConstantUnsigned", spec := "fnConstantUnsigned", inPlace := ["internal/abi.NoEscape"], unfollowed := true, recurses := true, named := ["unicode/utf8.first", "unicode/utf8.acceptRanges", "internal/strconv.uint64pow10", "math/bits.deBruijn32tab", "math/bits.deBruijn64tab"], apart := false, laid := [("math/bits.deBruijn32tab", laid_math_bits_deBruijn32tab), ("math/bits.deBruijn64tab", laid_math_bits_deBruijn64tab), ("internal/strconv.uint64pow10", laid_internal_strconv_uint64pow10), ("unicode/utf8.acceptRanges", laid_unicode_utf8_acceptRanges), ("unicode/utf8.first", laid_unicode_utf8_first)], narrowed := true }
def FnConstantUnsignedUptoSaid : Prop := fnConstantUnsignedUptoRow.holds Tryd.pinned (OpenSpec.upto fnConstantUnsignedSpec)

/-- 'laws.FnConstantMade', WHERE WHAT IT READS IS OF BULK AT MOST 1048576: true; the input reads as it did. -/
def fnConstantMadeUptoRow : OpenClaim := { program := "ytepcpmeblidkgaadoor", sum := "f1e6ebd82fc5d4ac9e5f18a2b0bd11c9cede8699f0a48df0ce8fe257ce959196", func := "loop.example/pub-g01453/laws.FnConstantMade", spec := "fnConstantMade", inPlace := ["internal/abi.NoEscape"], unfollowed := true, recurses := true, named := ["unicode/utf8.first", "unicode/utf8.acceptRanges", "internal/strconv.uint64pow10", "math/bits.deBruijn32tab", "math/bits.deBruijn64tab"], loops := true, apart := false, laid := [("math/bits.deBruijn32tab", laid_math_bits_deBruijn32tab), ("math/bits.deBruijn64tab", laid_math_bits_deBruijn64tab), ("internal/strconv.uint64pow10", laid_internal_strconv_uint64pow10), ("unicode/utf8.acceptRanges", laid_unicode_utf8_acceptRanges), ("unicode/utf8.first", laid_unicode_utf8_first)], narrowed := true }
def FnConstantMadeUptoSaid : Prop := fnConstantMadeUptoRow.holds Tryd.pinned (OpenSpec.upto fnConstantMadeSpec)

end Rows
end Go.Proofs.YtepcpmeblidkgaaDoor
