/- checkChar; a local variable in a block of its own beside the reader. -/
import Derived.Test.YtokjbdofpdncdaaDoorAdv
namespace Go.Proofs.YtokjbdofpdncdaaDoor
open Go.RowKit
set_option linter.unusedVariables false
set_option maxRecDepth 100000
attribute [local go_sem] bs_size bs_get0

theorem checkChar_yes {w : World} {b : Nat} {st : St} {c : UInt8} {l : List UInt8} (h : Rst w b st) (hc : st.str = c :: l) (hl : st.str.length ≤ 9223372036854775807) :
    Calls Tryd.prog 114 #[.pointer (some ⟨b, 0, none⟩), .int .u8 (c.toNat : Int)] w (Done b w (.tuple #[]) { st with str := l }) := by
  have c1 : w.cell? ⟨b, 1, none⟩ = some (.string (bs (c :: l))) := by rw [h.str, hc]
  have hp0 : 0 < (bs (c :: l)).size := by rw [bs_size]; simp
  have hz : ((l.length : Int) + 1 == 0) = false := by simp; omega
  have e1 : ((c.toNat : Int) != (c.toNat : Int)) = false := by simp
  have HA := Lib.hid (advance_one h hc hl)
  clear h hl hc
  go_enter Tryd.func114, Tryd.ntmps114
  go_wp2_with (go_at_call 81; refine (HA.out).mono ?_; rintro e w1 ⟨rfl, ⟨o1, h1⟩, hb1⟩)
  go_end0
  exact ⟨rfl, ⟨_, h1⟩, hb1⟩

theorem Rst.allocd {w : World} {b : Nat} {st : St} (h : Rst w b st) (o : Obj) : Rst (w.alloc o) b st := by
  obtain ⟨x, av, bv, h, k⟩ := h
  exact ⟨x, av, bv, h.alloc o, k.1, k.2.alloc o⟩
end Go.Proofs.YtokjbdofpdncdaaDoor
