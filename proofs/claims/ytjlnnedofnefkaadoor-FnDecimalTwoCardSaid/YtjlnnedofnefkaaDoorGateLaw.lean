/- What the statements ask of the doors to numbers. -/
import Derived.Test.YtjlnnedofnefkaaDoorGateNum
import Derived.Test.YtjlnnedofnefkaaDoorArg
namespace Go.Proofs.YtjlnnedofnefkaaDoor
open Go.RowKit
set_option linter.unusedVariables false
set_option maxRecDepth 100000
attribute [local go_sem] bs_size bs_toList

theorem beq_bytes (l : List UInt8) : (l == l) = true := by simp

/-- The number n is read, and l is left. -/
theorem doorDecimal_yes {s : ByteArray} {n : Int} {l : List UInt8} (hr : dec s.data.toList = some (n, l)) (hs : s.size ≤ 9223372036854775807) (w : World) :
    Calls Tryd.prog 16 #[.string s, .int .i64 n, .string (bs l)] w fun e w' => e = .returned (.bool true) ∧ Below w.heap.size w w' := by
  have hz := fun W => decimal_impl hr hs W
  have HZ := Lib.hid hz
  clear hz hr
  have e1 : (n == n) = true := by simp
  have e2 := beq_bytes l
  go_enter Tryd.func16, Tryd.ntmps16
  go_wp2_with (go_at_call 14; refine (HZ.out _).mono ?_; rintro e w2 ⟨rfl, hb2⟩)
  go_ret
  exact ⟨rfl, hb2⟩
end Go.Proofs.YtjlnnedofnefkaaDoor
