/- FnConstantZero and FnConstantReference: the walks. -/
import Derived.Test.YtokjbdofpdncdaaDoorGateConst
import Derived.Test.YtokjbdofpdncdaaDoorConstSpec
namespace Go.Proofs.YtokjbdofpdncdaaDoor
open Go.RowKit Go.Lib
set_option linter.unusedVariables false
set_option maxRecDepth 100000
attribute [local go_sem] bs_size bs_toList

theorem letters6 {k : Nat} (hk : k = 0 ∨ k = 1 ∨ k = 2 ∨ k = 3 ∨ k = 4 ∨ k = 5) :
    uLetter k ∈ kindLetters ∧ kindOf (uLetter k) = 2 ∧ sLetter k ∈ kindLetters ∧ kindOf (sLetter k) = 1 := by
  rcases hk with rfl | rfl | rfl | rfl | rfl | rfl <;> decide
theorem hex_zero : hexL 0 = [48] := hexL_small (by decide)
theorem dec_zero : decDigits 0 = [48] := decDigits_small (by decide)

end Go.Proofs.YtokjbdofpdncdaaDoor
