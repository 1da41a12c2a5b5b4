/-
  No cell of these rows narrows 'for every input' (looked for: loops, veiled, ifaces, maps, wideKeys, modest, calm, conditions, laid).
  DERIVED. THE GIVEN ROWS OF THIS SEAT. 7 by the template 'for every input the law returns true; each argument reads behind the call as it read before'; 0 by the template 'total and deterministic' (their statements: YtjlnnedofnefkaaTotals.lean).
  GIVEN WITH THE SEED: the statements are not yours to turn. If you find one false, say at which input.
  Laid BY PROGRAM, IN A SANDBOX (cutbox-rows.mjs): the forced cells as the released guide's own fill.sh prints them over the translation e9566dd8bd80b061… (all of the seat's roots in one cut). By AI agents, Wed Nov 11 2026. No macro, syntax, notation, axiom, sorry.
-/
import Derived.Test.YtjlnnedofnefkaaChecked
import GoSem.Claim
import GoSem.ClaimJoined
import GoSem.ClaimMapViews
import Derived.JoinedTies
import Derived.KernelRfl
namespace Go.Proofs.Ytjlnnedofnefkaa
/- THE CELL 'sum', in the pinned program and in every row, IS THE sha256 OF THE DUMP (.gsa) THAT YtjlnnedofnefkaaProg.lean LOADS. Nothing in Lean hashes anything: it is a label: what it is worth is what the hold of that sum in a sandbox is worth. -/
noncomputable def Try.pinned : Pinned := { name := "ytjlnnedofnefkaa", sum := "e9566dd8bd80b06182cb2e62ccfe5370dd639f7a236650bb8a1fae4e5146e1dc", checked := Try.checked }
namespace Rows
def none {H : Type} : Left H := { results := [], args := [] }

/-- 'laws.FnDecimalZero': WHATEVER THE INPUT: true; the input reads as it did. -/
def fnDecimalZeroSpec : ChangeSpec := { name := "fnDecimalZero", fn := fun _ => fun
  | [d] => { results := [.lit (.bool true)], args := [d] }
  | _ => none }
def fnDecimalZeroRow : OpenClaim := { program := "ytjlnnedofnefkaa", sum := "e9566dd8bd80b06182cb2e62ccfe5370dd639f7a236650bb8a1fae4e5146e1dc", func := "loop.example/pub-g01453/laws.FnDecimalZero", spec := "fnDecimalZero", unfollowed := true, recurses := true, apart := false }
def FnDecimalZeroSaid : Prop := fnDecimalZeroRow.holds Try.pinned (OpenSpec.ofChange fnDecimalZeroSpec)

/-- ITS FALSE NEIGHBOUR: 'it returns false'. Refute it at one input. -/
def fnDecimalZeroWrong : ChangeSpec := { name := "fnDecimalZero", fn := fun _ => fun
  | [d] => { results := [.lit (.bool false)], args := [d] }
  | _ => none }
def FnDecimalZeroWrongFalsely : Prop := fnDecimalZeroRow.holds Try.pinned (OpenSpec.ofChange fnDecimalZeroWrong)

/-- 'laws.FnBase62Any': WHATEVER THE INPUT: true; the input reads as it did. -/
def fnBase62AnySpec : ChangeSpec := { name := "fnBase62Any", fn := fun _ => fun
  | [d] => { results := [.lit (.bool true)], args := [d] }
  | _ => none }
def fnBase62AnyRow : OpenClaim := { program := "ytjlnnedofnefkaa", sum := "e9566dd8bd80b06182cb2e62ccfe5370dd639f7a236650bb8a1fae4e5146e1dc", func := "loop.example/pub-g01453/laws.FnBase62Any", spec := "fnBase62Any", unfollowed := true, recurses := true, apart := false }
def FnBase62AnySaid : Prop := fnBase62AnyRow.holds Try.pinned (OpenSpec.ofChange fnBase62AnySpec)

/-- ITS FALSE NEIGHBOUR: 'it returns false'. Refute it at one input. -/
def fnBase62AnyWrong : ChangeSpec := { name := "fnBase62Any", fn := fun _ => fun
  | [d] => { results := [.lit (.bool false)], args := [d] }
  | _ => none }
def FnBase62AnyWrongFalsely : Prop := fnBase62AnyRow.holds Try.pinned (OpenSpec.ofChange fnBase62AnyWrong)

/-- 'laws.FnBase62Cut': WHATEVER THE INPUT: true; the input reads as it did. -/
def fnBase62CutSpec : ChangeSpec := { name := "fnBase62Cut", fn := fun _ => fun
  | [d1, d2] => { results := [.lit (.bool true)], args := [d1, d2] }
  | _ => none }
def fnBase62CutRow : OpenClaim := { program := "ytjlnnedofnefkaa", sum := "e9566dd8bd80b06182cb2e62ccfe5370dd639f7a236650bb8a1fae4e5146e1dc", func := "loop.example/pub-g01453/laws.FnBase62Cut", spec := "fnBase62Cut", unfollowed := true, recurses := true, apart := false }
def FnBase62CutSaid : Prop := fnBase62CutRow.holds Try.pinned (OpenSpec.ofChange fnBase62CutSpec)

/-- ITS FALSE NEIGHBOUR: 'it returns false'. Refute it at one input. -/
def fnBase62CutWrong : ChangeSpec := { name := "fnBase62Cut", fn := fun _ => fun
  | [d1, d2] => { results := [.lit (.bool false)], args := [d1, d2] }
  | _ => none }
def FnBase62CutWrongFalsely : Prop := fnBase62CutRow.holds Try.pinned (OpenSpec.ofChange fnBase62CutWrong)

/-- 'laws.FnBase62Read': WHATEVER THE INPUT: true; the input reads as it did. -/
def fnBase62ReadSpec : ChangeSpec := { name := "fnBase62Read", fn := fun _ => fun
  | [d1, d2] => { results := [.lit (.bool true)], args := [d1, d2] }
  | _ => none }
def fnBase62ReadRow : OpenClaim := { program := "ytjlnnedofnefkaa", sum := "e9566dd8bd80b06182cb2e62ccfe5370dd639f7a236650bb8a1fae4e5146e1dc", func := "loop.example/pub-g01453/laws.FnBase62Read", spec := "fnBase62Read", unfollowed := true, recurses := true, apart := false }
def FnBase62ReadSaid : Prop := fnBase62ReadRow.holds Try.pinned (OpenSpec.ofChange fnBase62ReadSpec)

/-- ITS FALSE NEIGHBOUR: 'it returns false'. Refute it at one input. -/
def fnBase62ReadWrong : ChangeSpec := { name := "fnBase62Read", fn := fun _ => fun
  | [d1, d2] => { results := [.lit (.bool false)], args := [d1, d2] }
  | _ => none }
def FnBase62ReadWrongFalsely : Prop := fnBase62ReadRow.holds Try.pinned (OpenSpec.ofChange fnBase62ReadWrong)

/-- 'laws.FnPunycodeCut': WHATEVER THE INPUT: true; the input reads as it did. -/
def fnPunycodeCutSpec : ChangeSpec := { name := "fnPunycodeCut", fn := fun _ => fun
  | [d1, d2] => { results := [.lit (.bool true)], args := [d1, d2] }
  | _ => none }
def fnPunycodeCutRow : OpenClaim := { program := "ytjlnnedofnefkaa", sum := "e9566dd8bd80b06182cb2e62ccfe5370dd639f7a236650bb8a1fae4e5146e1dc", func := "loop.example/pub-g01453/laws.FnPunycodeCut", spec := "fnPunycodeCut", unfollowed := true, recurses := true, apart := false }
def FnPunycodeCutSaid : Prop := fnPunycodeCutRow.holds Try.pinned (OpenSpec.ofChange fnPunycodeCutSpec)

/-- ITS FALSE NEIGHBOUR: 'it returns false'. Refute it at one input. -/
def fnPunycodeCutWrong : ChangeSpec := { name := "fnPunycodeCut", fn := fun _ => fun
  | [d1, d2] => { results := [.lit (.bool false)], args := [d1, d2] }
  | _ => none }
def FnPunycodeCutWrongFalsely : Prop := fnPunycodeCutRow.holds Try.pinned (OpenSpec.ofChange fnPunycodeCutWrong)

/-- 'laws.FnPunycodeMade': WHATEVER THE INPUT: true; the input reads as it did. -/
def fnPunycodeMadeSpec : ChangeSpec := { name := "fnPunycodeMade", fn := fun _ => fun
  | [d] => { results := [.lit (.bool true)], args := [d] }
  | _ => none }
def fnPunycodeMadeRow : OpenClaim := { program := "ytjlnnedofnefkaa", sum := "e9566dd8bd80b06182cb2e62ccfe5370dd639f7a236650bb8a1fae4e5146e1dc", func := "loop.example/pub-g01453/laws.FnPunycodeMade", spec := "fnPunycodeMade", unfollowed := true, recurses := true, apart := false }
def FnPunycodeMadeSaid : Prop := fnPunycodeMadeRow.holds Try.pinned (OpenSpec.ofChange fnPunycodeMadeSpec)

/-- ITS FALSE NEIGHBOUR: 'it returns false'. Refute it at one input. -/
def fnPunycodeMadeWrong : ChangeSpec := { name := "fnPunycodeMade", fn := fun _ => fun
  | [d] => { results := [.lit (.bool false)], args := [d] }
  | _ => none }
def FnPunycodeMadeWrongFalsely : Prop := fnPunycodeMadeRow.holds Try.pinned (OpenSpec.ofChange fnPunycodeMadeWrong)

/-- 'laws.FnIdentifierEmpty': WHATEVER THE INPUT: true; the input reads as it did. -/
def fnIdentifierEmptySpec : ChangeSpec := { name := "fnIdentifierEmpty", fn := fun _ => fun
  | [d1, d2] => { results := [.lit (.bool true)], args := [d1, d2] }
  | _ => none }
def fnIdentifierEmptyRow : OpenClaim := { program := "ytjlnnedofnefkaa", sum := "e9566dd8bd80b06182cb2e62ccfe5370dd639f7a236650bb8a1fae4e5146e1dc", func := "loop.example/pub-g01453/laws.FnIdentifierEmpty", spec := "fnIdentifierEmpty", unfollowed := true, recurses := true, apart := false }
def FnIdentifierEmptySaid : Prop := fnIdentifierEmptyRow.holds Try.pinned (OpenSpec.ofChange fnIdentifierEmptySpec)

/-- ITS FALSE NEIGHBOUR: 'it returns false'. Refute it at one input. -/
def fnIdentifierEmptyWrong : ChangeSpec := { name := "fnIdentifierEmpty", fn := fun _ => fun
  | [d1, d2] => { results := [.lit (.bool false)], args := [d1, d2] }
  | _ => none }
def FnIdentifierEmptyWrongFalsely : Prop := fnIdentifierEmptyRow.holds Try.pinned (OpenSpec.ofChange fnIdentifierEmptyWrong)

/- THE SECOND FORM. 'bulk': how many values and letters a reading holds, each counted each time it is reached (what is shared counts as often as it is met; a slice's spare places count too). A statement '..UptoSaid' is the law's where the arguments, and the package variables that the reading takes, are together of bulk at most 1048576: NARROWER than '..Said'. Prove '..Said' where nothing that the law and all that it calls make is longer than what came in: it says more and counts as full. Else prove '..UptoSaid'. A law counts once. -/
mutual
def uptoBulk {H : Type} : DataW H → Nat
  | .lit (.string bytes) => bytes.length + 1
  | .lit _ => 1
  | .nil => 1
  | .ptr d => uptoBulk d + 1
  | .slice elems spare => uptoBulkAll elems + uptoBulkAll spare + 1
  | .agg parts => uptoBulkAll parts + 1
  | .iface _ d => uptoBulk d + 1
  | .map entries => uptoBulkEntries entries + 1
  | .held _ => 1
def uptoBulkAll {H : Type} : List (DataW H) → Nat
  | [] => 0
  | d :: r => uptoBulk d + uptoBulkAll r
def uptoBulkEntries {H : Type} : List (Lit × DataW H) → Nat
  | [] => 0
  | x :: r => uptoBulkEntry x + uptoBulkEntries r
def uptoBulkEntry {H : Type} : Lit × DataW H → Nat
  | (.string bytes, d) => bytes.length + uptoBulk d + 1
  | (_, d) => uptoBulk d + 1
 end
def uptoSmall : (H : Type) → List (DataW H) → Bool := fun _ ds => decide (uptoBulkAll ds ≤ 1048576)
def OpenSpec.upto (s : _root_.Go.ChangeSpec) : _root_.Go.OpenSpec := { _root_.Go.OpenSpec.ofChange s with cond := some uptoSmall }

/-- 'laws.FnDecimalZero', WHERE WHAT IT READS IS OF BULK AT MOST 1048576: true; the input reads as it did. -/
def fnDecimalZeroUptoRow : OpenClaim := { program := "ytjlnnedofnefkaa", sum := "e9566dd8bd80b06182cb2e62ccfe5370dd639f7a236650bb8a1fae4e5146e1dc", func := "loop.example/pub-g01453/laws.FnDecimalZero", spec := "fnDecimalZero", unfollowed := true, recurses := true, apart := false, narrowed := true }
def FnDecimalZeroUptoSaid : Prop := fnDecimalZeroUptoRow.holds Try.pinned (OpenSpec.upto fnDecimalZeroSpec)

/-- 'laws.FnBase62Any', WHERE WHAT IT READS IS OF BULK AT MOST 1048576: true; the input reads as it did. -/
def fnBase62AnyUptoRow : OpenClaim := { program := "ytjlnnedofnefkaa", sum := "e9566dd8bd80b06182cb2e62ccfe5370dd639f7a236650bb8a1fae4e5146e1dc", func := "loop.example/pub-g01453/laws.FnBase62Any", spec := "fnBase62Any", unfollowed := true, recurses := true, apart := false, narrowed := true }
def FnBase62AnyUptoSaid : Prop := fnBase62AnyUptoRow.holds Try.pinned (OpenSpec.upto fnBase62AnySpec)

/-- 'laws.FnBase62Cut', WHERE WHAT IT READS IS OF BULK AT MOST 1048576: true; the input reads as it did. -/
def fnBase62CutUptoRow : OpenClaim := { program := "ytjlnnedofnefkaa", sum := "e9566dd8bd80b06182cb2e62ccfe5370dd639f7a236650bb8a1fae4e5146e1dc", func := "loop.example/pub-g01453/laws.FnBase62Cut", spec := "fnBase62Cut", unfollowed := true, recurses := true, apart := false, narrowed := true }
def FnBase62CutUptoSaid : Prop := fnBase62CutUptoRow.holds Try.pinned (OpenSpec.upto fnBase62CutSpec)

/-- 'laws.FnBase62Read', WHERE WHAT IT READS IS OF BULK AT MOST 1048576: true; the input reads as it did. -/
def fnBase62ReadUptoRow : OpenClaim := { program := "ytjlnnedofnefkaa", sum := "e9566dd8bd80b06182cb2e62ccfe5370dd639f7a236650bb8a1fae4e5146e1dc", func := "loop.example/pub-g01453/laws.FnBase62Read", spec := "fnBase62Read", unfollowed := true, recurses := true, apart := false, narrowed := true }
def FnBase62ReadUptoSaid : Prop := fnBase62ReadUptoRow.holds Try.pinned (OpenSpec.upto fnBase62ReadSpec)

/-- 'laws.FnPunycodeCut', WHERE WHAT IT READS IS OF BULK AT MOST 1048576: true; the input reads as it did. -/
def fnPunycodeCutUptoRow : OpenClaim := { program := "ytjlnnedofnefkaa", sum := "e9566dd8bd80b06182cb2e62ccfe5370dd639f7a236650bb8a1fae4e5146e1dc", func := "loop.example/pub-g01453/laws.FnPunycodeCut", spec := "fnPunycodeCut", unfollowed := true, recurses := true, apart := false, narrowed := true }
def FnPunycodeCutUptoSaid : Prop := fnPunycodeCutUptoRow.holds Try.pinned (OpenSpec.upto fnPunycodeCutSpec)

/-- 'laws.FnPunycodeMade', WHERE WHAT IT READS IS OF BULK AT MOST 1048576: true; the input reads as it did. -/
def fnPunycodeMadeUptoRow : OpenClaim := { program := "ytjlnnedofnefkaa", sum := "e9566dd8bd80b06182cb2e62ccfe5370dd639f7a236650bb8a1fae4e5146e1dc", func := "loop.example/pub-g01453/laws.FnPunycodeMade", spec := "fnPunycodeMade", unfollowed := true, recurses := true, apart := false, narrowed := true }
def FnPunycodeMadeUptoSaid : Prop := fnPunycodeMadeUptoRow.holds Try.pinned (OpenSpec.upto fnPunycodeMadeSpec)

/-- 'laws.FnIdentifierEmpty', WHERE WHAT IT READS IS OF BULK AT MOST 1048576: true; the input reads as it did. -/
def fnIdentifierEmptyUptoRow : OpenClaim := { program := "ytjlnnedofnefkaa", sum := "e9566dd8bd80b06182cb2e62ccfe5370dd639f7a236650bb8a1fae4e5146e1dc", func := "loop.example/pub-g01453/laws.FnIdentifierEmpty", spec := "fnIdentifierEmpty", unfollowed := true, recurses := true, apart := false, narrowed := true }
def FnIdentifierEmptyUptoSaid : Prop := fnIdentifierEmptyUptoRow.holds Try.pinned (OpenSpec.upto fnIdentifierEmptySpec)

end Rows
end Go.Proofs.Ytjlnnedofnefkaa
