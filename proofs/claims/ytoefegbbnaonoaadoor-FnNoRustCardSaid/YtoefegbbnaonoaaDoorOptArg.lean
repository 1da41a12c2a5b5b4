/- Options that came in. -/
import Derived.Test.YtoefegbbnaonoaaDoorBase
import Derived.Test.YtoefegbbnaonoaaDoorRows
import Derived.Deep.Matrix
namespace Go.Proofs.YtoefegbbnaonoaaDoor
open Go.RowKit Go.WideShapes
set_option linter.unusedVariables false

set_option maxRecDepth 100000
theorem opts_open {W : World} {base : Nat} {v : Value} (h : Value.okWide Tryd.prog W .any base 29 v) :
    ∃ (b : Nat → Bool) (z : Int), v = .agg #[.bool (b 0), .bool (b 1), .bool (b 2), .bool (b 3), .bool (b 4), .bool (b 5), .bool (b 6), .int .i64 z] ∧ (Lit.int .i64 z).wf = true := by
  simp only [Value.okWide, Tryd.underlying29] at h
  obtain ⟨cs, rfl, hsz, ts, hts, _, hc⟩ := h
  have e8 : Tryd.prog.cellsOf 29 = 8 := by kernel_rfl
  have ets : Tryd.prog.cellTypes Tryd.prog.depth 29 = some [4, 4, 4, 4, 4, 4, 4, 3] := by kernel_rfl
  obtain rfl := Option.some.inj (hts.symm.trans ets)
  rw [e8] at hsz
  have hb : ∀ i, i < 7 → ∃ x : Bool, cs[i]? = some (.bool x) := by
    intro i hi
    obtain ⟨v, hv⟩ : ∃ v, cs[i]? = some v := ⟨cs[i]'(by omega), Array.getElem?_eq_getElem _⟩
    obtain ⟨u, hu, hk⟩ := hc i v hv
    have hu4 : u = 4 := by
      match i, hi with
      | 0, _ | 1, _ | 2, _ | 3, _ | 4, _ | 5, _ | 6, _ => exact (Option.some.inj hu).symm
    subst hu4
    simp only [Cell.okWide, Tryd.underlying4, Cell.ok] at hk
    cases v <;> simp at hk
    exact ⟨_, hv⟩
  obtain ⟨f, hf⟩ := Go.Deep.choose_lt hb
  obtain ⟨z, hz, hwf⟩ : ∃ z, cs[7]? = some (.int .i64 z) ∧ (Lit.int .i64 z).wf = true := by
    obtain ⟨v, hv⟩ : ∃ v, cs[7]? = some v := ⟨cs[7]'(by omega), Array.getElem?_eq_getElem _⟩
    obtain ⟨u, hu, hk⟩ := hc 7 v hv
    have hu4 : u = 3 := (Option.some.inj hu).symm
    subst hu4
    simp only [Cell.okWide, Tryd.underlying3, Cell.ok] at hk
    cases v <;> simp at hk
    obtain ⟨rfl, hk⟩ := hk
    exact ⟨_, hv, by simpa [Lit.wf, IntKind.has] using hk⟩
  refine ⟨f, z, congrArg Value.agg (Array.ext (by simp [hsz]) fun i h1 h2 => ?_), hwf⟩
  have key : cs[i]? = (#[Value.bool (f 0), .bool (f 1), .bool (f 2), .bool (f 3), .bool (f 4), .bool (f 5), .bool (f 6), .int .i64 z] : Array Value)[i]? := by
    match i, (show i < 8 by omega) with
    | 0, _ => exact hf 0 (by omega)
    | 1, _ => exact hf 1 (by omega)
    | 2, _ => exact hf 2 (by omega)
    | 3, _ => exact hf 3 (by omega)
    | 4, _ => exact hf 4 (by omega)
    | 5, _ => exact hf 5 (by omega)
    | 6, _ => exact hf 6 (by omega)
    | 7, _ => exact hz
  rw [Array.getElem?_eq_getElem h1, Array.getElem?_eq_getElem h2] at key
  exact Option.some.inj key
end Go.Proofs.YtoefegbbnaonoaaDoor
