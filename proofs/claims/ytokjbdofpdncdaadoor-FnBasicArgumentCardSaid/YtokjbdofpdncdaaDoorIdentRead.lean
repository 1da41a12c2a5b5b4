/- Written identifiers are read back. No memory, no program. -/
import Derived.Test.YtokjbdofpdncdaaDoorIdent2
import Derived.Test.YtokjbdofpdncdaaDoorSpecB62
namespace Go.Proofs.YtokjbdofpdncdaaDoor
open Go.RowKit
set_option linter.unusedVariables false

theorem disa_read {k : Nat} (hk : k ≤ 4611686018427387904) (t : List UInt8) (ht : ∀ u, t ≠ 115 :: u) : disa (disOf k ++ t) = some ((k : Int), t) := by
  unfold disOf
  by_cases h : k = 0
  · subst h
    cases t with
    | nil => rfl
    | cons c u =>
      have : c ≠ 115 := fun e => ht u (by rw [e])
      simp [disa, this]
  · rw [if_neg h]
    show (b62 (b62of (k - 1) ++ t)).map (fun p => (wrap64 (p.1 + 1), p.2)) = _
    rw [b62_read (by omega)]
    show some (wrap64 (((k - 1 : Nat) : Int) + 1), t) = _
    have : wrap64 (((k - 1 : Nat) : Int) + 1) = (k : Int) := by unfold wrap64; omega
    rw [this]

theorem identAll_read {k : Nat} (hk : k ≤ 4611686018427387904) {t : List UInt8} (ht : ∀ u, t ≠ 115 :: u) {n r : List UInt8} (hn : ident t = some (n, r)) : identAll (disOf k ++ t) = some ((k : Int), n, r) := by
  unfold identAll
  rw [disa_read hk t ht]
  simp only
  rw [hn]
  rfl
theorem noUIn_read {k : Nat} (hk : k ≤ 4611686018427387904) {t : List UInt8} (ht : ∀ u, t ≠ 115 :: u) (hu : noU t) : noUIn (disOf k ++ t) := by
  intro d r h
  rw [disa_read hk t ht] at h
  simp at h
  rw [← h.2]
  exact hu

theorem ident_empty {t : List UInt8} (ht : ∀ c u, t = c :: u → isDig c = false ∧ c ≠ 95) : ident (48 :: t) = some ([], t) := by
  have e : dec (48 :: t) = some (0, t) := by
    show decgo 0 (48 :: t) = _
    rw [decgo_on (by decide) (by decide)]
    show decgo 0 t = _
    cases t with
    | nil => rfl
    | cons c u => exact decgo_off (ht c u rfl).1
  unfold ident
  rw [e]
  have e2 : unUnder t = t := by
    cases t with
    | nil => rfl
    | cons c u =>
      have := (ht c u rfl).2
      simp only [unUnder, this, if_false]
  simp only [e2]
  unfold takeId
  rw [if_neg (by omega)]
  rfl
end Go.Proofs.YtokjbdofpdncdaaDoor
