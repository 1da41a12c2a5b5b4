/- Decimal digits, a step at a time. No memory, no program. -/
import Derived.Test.YtokjbdofpdncdaaDoorNum
namespace Go.Proofs.YtokjbdofpdncdaaDoor
open Go.RowKit
set_option linter.unusedVariables false
theorem decgo_over {d : UInt8} {x : Int} {m : List UInt8} (hd : isDig d = true) (h : 214748364 - ((d.toNat : Int) - 48) ≤ x) : decgo x (d :: m) = none := by
  unfold decgo; rw [if_pos hd, if_pos h]
theorem decgo_on {d : UInt8} {x : Int} {m : List UInt8} (hd : isDig d = true) (h : ¬ 214748364 - ((d.toNat : Int) - 48) ≤ x) : decgo x (d :: m) = decgo (x * 10 + ((d.toNat : Int) - 48)) m := by
  conv => lhs; unfold decgo
  rw [if_pos hd, if_neg h]
theorem decgo_off {d : UInt8} {x : Int} {m : List UInt8} (hd : isDig d = false) : decgo x (d :: m) = some (x, d :: m) := by
  unfold decgo; rw [hd]; rfl

end Go.Proofs.YtokjbdofpdncdaaDoor
