/- A piece of the reference's type that came in. -/
import Derived.Test.YtokjbdofpdncdaaDoorMadeR
import Derived.Deep.Matrix
namespace Go.Proofs.YtokjbdofpdncdaaDoor
open Go.RowKit Go.WideShapes
set_option linter.unusedVariables false

set_option maxRecDepth 100000
theorem rust_open {W : World} {base : Nat} {v : Value} (h : Value.okWide Tryd.prog W .any base 38 v) :
    ∃ (k : Int) (c : UInt8) (nm : List UInt8) (n : Nat) (f : Bool) (A : Option Addr) (kn kc : Nat), v = rustV k (c.toNat : Int) nm (n : Int) f A kn kc ∧ n ≤ 18446744073709551615 := by
  simp only [Value.okWide, Tryd.underlying38] at h
  obtain ⟨cs, rfl, hsz, ts, hts, _, hc⟩ := h
  have e8 : Tryd.prog.cellsOf 38 = 6 := by kernel_rfl
  have ets : Tryd.prog.cellTypes Tryd.prog.depth 38 = some [3, 5, 9, 35, 4, 36] := by kernel_rfl
  obtain rfl := Option.some.inj (hts.symm.trans ets)
  rw [e8] at hsz
  have hg : ∀ i, i < 6 → ∃ v, cs[i]? = some v := fun i hi => ⟨cs[i]'(by omega), Array.getElem?_eq_getElem _⟩
  obtain ⟨k, h0⟩ : ∃ z, cs[0]? = some (.int .i64 z) := by
    obtain ⟨v, hv⟩ := hg 0 (by omega)
    obtain ⟨u, hu, hk⟩ := hc 0 v hv
    obtain rfl : u = 3 := (Option.some.inj hu).symm
    simp only [Cell.okWide, Tryd.underlying3, Cell.ok] at hk
    cases v <;> simp at hk
    obtain ⟨rfl, hk⟩ := hk
    exact ⟨_, hv⟩
  obtain ⟨z, h1, hwf1⟩ : ∃ z, cs[1]? = some (.int .u8 z) ∧ (Lit.int .u8 z).wf = true := by
    obtain ⟨v, hv⟩ := hg 1 (by omega)
    obtain ⟨u, hu, hk⟩ := hc 1 v hv
    obtain rfl : u = 5 := (Option.some.inj hu).symm
    simp only [Cell.okWide, Tryd.underlying5, Cell.ok] at hk
    cases v <;> simp at hk
    obtain ⟨rfl, hk⟩ := hk
    exact ⟨_, hv, by simpa [Lit.wf, IntKind.has] using hk⟩
  obtain ⟨s, h2⟩ : ∃ s, cs[2]? = some (.string s) := by
    obtain ⟨v, hv⟩ := hg 2 (by omega)
    obtain ⟨u, hu, hk⟩ := hc 2 v hv
    obtain rfl : u = 9 := (Option.some.inj hu).symm
    simp only [Cell.okWide, Tryd.underlying9, Cell.ok] at hk
    cases v <;> simp at hk
    exact ⟨_, hv⟩
  obtain ⟨m, h3, hwf3⟩ : ∃ z, cs[3]? = some (.int .u64 z) ∧ (Lit.int .u64 z).wf = true := by
    obtain ⟨v, hv⟩ := hg 3 (by omega)
    obtain ⟨u, hu, hk⟩ := hc 3 v hv
    obtain rfl : u = 35 := (Option.some.inj hu).symm
    simp only [Cell.okWide, Tryd.underlying35, Cell.ok] at hk
    cases v <;> simp at hk
    obtain ⟨rfl, hk⟩ := hk
    exact ⟨_, hv, by simpa [Lit.wf, IntKind.has] using hk⟩
  obtain ⟨f, h4⟩ : ∃ b, cs[4]? = some (.bool b) := by
    obtain ⟨v, hv⟩ := hg 4 (by omega)
    obtain ⟨u, hu, hk⟩ := hc 4 v hv
    obtain rfl : u = 4 := (Option.some.inj hu).symm
    simp only [Cell.okWide, Tryd.underlying4, Cell.ok] at hk
    cases v <;> simp at hk
    exact ⟨_, hv⟩
  obtain ⟨A, kn, kc, h5⟩ : ∃ a n c, cs[5]? = some (.slice a n c) := by
    obtain ⟨v, hv⟩ := hg 5 (by omega)
    obtain ⟨u, hu, hk⟩ := hc 5 v hv
    obtain rfl : u = 36 := (Option.some.inj hu).symm
    simp only [Cell.okWide, Tryd.underlying36, Cell.ok] at hk
    cases v <;> simp at hk
    exact ⟨_, _, _, hv⟩
  obtain ⟨c, rfl⟩ := u8_of hwf1
  obtain ⟨n, rfl, hn⟩ := u64_of hwf3
  refine ⟨k, c, s.data.toList, n, f, A, kn, kc, congrArg Value.agg (Array.ext (by simp [hsz]) fun i h1' h2' => ?_), hn⟩
  rw [bs_of] at h2' ⊢
  have key : cs[i]? = (#[Value.int .i64 k, .int .u8 (c.toNat : Int), .string s, .int .u64 (n : Int), .bool f, .slice A kn kc] : Array Value)[i]? := by
    match i, (show i < 6 by omega) with
    | 0, _ => exact h0
    | 1, _ => exact h1
    | 2, _ => exact h2
    | 3, _ => exact h3
    | 4, _ => exact h4
    | 5, _ => exact h5
  rw [Array.getElem?_eq_getElem h1', Array.getElem?_eq_getElem h2'] at key
  exact Option.some.inj key
end Go.Proofs.YtokjbdofpdncdaaDoor
