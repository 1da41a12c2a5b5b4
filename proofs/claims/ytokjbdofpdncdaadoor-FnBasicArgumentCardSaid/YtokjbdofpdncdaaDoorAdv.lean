/- The reader's two smallest methods: going on, and failing. -/
import Derived.Test.YtokjbdofpdncdaaDoorRst
namespace Go.Proofs.YtokjbdofpdncdaaDoor
open Go.RowKit
set_option linter.unusedVariables false
attribute [local go_sem] bs_size bs_from

theorem advance_any {w : World} {b : Nat} {st : St} (h : Rst w b st) (n : Nat) (hn : n ≤ st.str.length) (hl : st.str.length ≤ 9223372036854775807) :
    Calls Tryd.prog 81 #[.pointer (some ⟨b, 0, none⟩), .int .i64 n] w (Done b w (.tuple #[]) { st with str := st.str.drop n }) := by
  have c1 := h.str
  have c2 := h.off
  have f1 := h.free 1
  have f2 := h.free 2
  have hb : decide (st.str.length < n) = false := decide_eq_false (by omega)
  go_enter Tryd.func81, Tryd.ntmps81
  go_wp2
  go_end0
  exact ⟨rfl, ⟨_, (h.setStr _).setOff _⟩, ((Keep.refl b w).setCell rfl _).setCell rfl _⟩

theorem advance_one {w : World} {b : Nat} {st : St} {c : UInt8} {l : List UInt8} (h : Rst w b st) (hc : st.str = c :: l) (hl : st.str.length ≤ 9223372036854775807) :
    Calls Tryd.prog 81 #[.pointer (some ⟨b, 0, none⟩), .int .i64 1] w (Done b w (.tuple #[]) { st with str := l }) := by
  have := advance_any h 1 (by rw [hc]; simp) hl
  rw [hc] at this
  exact this

theorem fail_any {w : World} {b : Nat} {st : St} (h : Rst w b st) (m : ByteArray) :
    Calls Tryd.prog 80 #[.pointer (some ⟨b, 0, none⟩), .string m] w fun e w' => Failed e ∧ w = w' := by
  have c2 := h.off
  go_enter Tryd.func80, Tryd.ntmps80
  go_wp2
  exact ⟨rfl, ⟨_, _, rfl⟩, rfl⟩
end Go.Proofs.YtokjbdofpdncdaaDoor
