/- strconv.FormatInt at base 10, of a number that is not negative. -/
import Derived.Test.YtokjbdofpdncdaaDoorItoa
namespace Go.Proofs.YtokjbdofpdncdaaDoor
open Go.RowKit Go.Lib
set_option linter.unusedVariables false
set_option maxRecDepth 100000

theorem fmtInt_any {w : World} {B : Nat} (hp : Pow w B) (n : Nat) (hn : n ≤ 9223372036854775807) :
    Calls Tryd.prog 134 #[.int .i64 (n : Int), .int .i64 10] w fun e w' => e = .returned (.string (bs (decDigits n))) ∧ Below w.heap.size w w' := by
  have H := Lib.hid (show Calls Tryd.prog 66 #[.int .i64 (n : Int), .int .i64 10] w fun e w' => e = .returned (.string (bs (decDigits n))) ∧ Below w.heap.size w w' by
    refine (Tryd.internal_strconv_FormatInt_10 (n : Int) (by omega) (by omega) w hp.2.2).mono ?_
    rintro e w' ⟨rfl, k, os, h⟩
    refine ⟨?_, below_grow (Nat.le_refl _) h⟩
    rw [itoa_nonneg]
    rfl)
  clear hp hn
  go_enter Tryd.func134, Tryd.ntmps134
  go_wp2_with (go_at_call 66; refine (H.out).mono ?_; rintro e w2 ⟨rfl, hb2⟩)
  go_ret
  exact ⟨rfl, hb2⟩
end Go.Proofs.YtokjbdofpdncdaaDoor
