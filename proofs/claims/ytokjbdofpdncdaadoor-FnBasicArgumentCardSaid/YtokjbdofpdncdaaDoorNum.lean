/- What numbers are read: in base 62, and in decimal. No memory, no program. -/
import Derived.Test.YtokjbdofpdncdaaDoorBase
namespace Go.Proofs.YtokjbdofpdncdaaDoor
open Go.RowKit

/-- A digit in base 62. -/
def dig62 (c : UInt8) : Option Int :=
  if 48 ≤ c.toNat ∧ c.toNat ≤ 57 then some ((c.toNat : Int) - 48)
  else if 97 ≤ c.toNat ∧ c.toNat ≤ 122 then some ((c.toNat : Int) - 97 + 10)
  else if 65 ≤ c.toNat ∧ c.toNat ≤ 90 then some ((c.toNat : Int) - 65 + 36)
  else none

/-- The digits behind v, and what follows the underscore. -/
def b62go : Int → List UInt8 → Option (Int × List UInt8)
  | _, [] => none
  | v, c :: l => if c = 95 then some (wrap64 (v + 1), l) else
    match dig62 c with
    | some d => b62go (wrap64 (wrap64 (v * 62) + d)) l
    | none => none

def b62 : List UInt8 → Option (Int × List UInt8)
  | [] => none
  | c :: l => if c = 95 then some (0, l) else b62go 0 (c :: l)

def isDig (c : UInt8) : Bool := decide (48 ≤ c.toNat ∧ c.toNat ≤ 57)

/-- Decimal digits behind v, and what follows them. -/
def decgo : Int → List UInt8 → Option (Int × List UInt8)
  | v, [] => some (v, [])
  | v, c :: l => if isDig c then
      (if 214748364 - ((c.toNat : Int) - 48) ≤ v then none else decgo (v * 10 + ((c.toNat : Int) - 48)) l)
    else some (v, c :: l)

def dec : List UInt8 → Option (Int × List UInt8)
  | [] => none
  | c :: l => decgo 0 (c :: l)

end Go.Proofs.YtokjbdofpdncdaaDoor
