/- The reader's two smallest methods: going on, and failing. -/
import Derived.Test.YteeodkmhelmedaaRst
namespace Go.Proofs.Yteeodkmhelmedaa
open Go.RowKit
set_option linter.unusedVariables false
attribute [local go_sem] bs_size bs_from


theorem fail_any {w : World} {b : Nat} {st : St} (h : Rst w b st) (m : ByteArray) :
    Calls Try.prog 31 #[.pointer (some ⟨b, 0, none⟩), .string m] w fun e w' => Failed e ∧ w = w' := by
  have c2 := h.off
  go_enter Try.func31, Try.ntmps31
  go_wp2
  exact ⟨rfl, ⟨_, _, rfl⟩, rfl⟩
end Go.Proofs.Yteeodkmhelmedaa
