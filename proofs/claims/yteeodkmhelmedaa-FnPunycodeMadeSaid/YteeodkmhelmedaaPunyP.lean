/- Punycode by its definition, as the reader reads it: pure. -/
import Derived.Test.YteeodkmhelmedaaBase
import Derived.Laws.Cover4
import Derived.Lib.Small
namespace Go.Proofs.Yteeodkmhelmedaa
open Go.RowKit
set_option linter.unusedVariables false

/-- The number of a digit. -/
def pdig (c : UInt8) : Option Nat :=
  if 48 ≤ c.toNat ∧ c.toNat ≤ 57 then some (c.toNat - 48 + 26) else if 65 ≤ c.toNat ∧ c.toNat ≤ 90 then some (c.toNat - 65) else if 97 ≤ c.toNat ∧ c.toNat ≤ 122 then some (c.toNat - 97) else none
theorem pdig_lt {c : UInt8} {d : Nat} (h : pdig c = some d) : d ≤ 35 := by
  unfold pdig at h
  repeat' split at h
  all_goals (try cases h)
  all_goals omega
theorem pdig_some1 {c : UInt8} (h : 48 ≤ c.toNat ∧ c.toNat ≤ 57) : pdig c = some (c.toNat - 48 + 26) := by unfold pdig; rw [if_pos h]
theorem pdig_some2 {c : UInt8} (h : 65 ≤ c.toNat ∧ c.toNat ≤ 90) : pdig c = some (c.toNat - 65) := by unfold pdig; rw [if_neg (by omega), if_pos h]
theorem pdig_some3 {c : UInt8} (h : 97 ≤ c.toNat ∧ c.toNat ≤ 122) : pdig c = some (c.toNat - 97) := by unfold pdig; rw [if_neg (by omega), if_neg (by omega), if_pos h]
theorem pdig_none {c : UInt8} (h : ¬ (48 ≤ c.toNat ∧ c.toNat ≤ 57) ∧ ¬ (65 ≤ c.toNat ∧ c.toNat ≤ 90) ∧ ¬ (97 ≤ c.toNat ∧ c.toNat ≤ 122)) : pdig c = none := by
  unfold pdig; rw [if_neg h.1, if_neg h.2.1, if_neg h.2.2]
/-- The threshold at a place. -/
def pthr (k bias : Nat) : Nat := if k ≤ bias then 1 else if k > bias + 26 then 26 else k - bias
theorem pthr_le (k bias : Nat) : 1 ≤ pthr k bias ∧ pthr k bias ≤ 26 := by
  unfold pthr
  repeat' split
  all_goals omega
/-- A delta read. -/
def pread : List UInt8 → Nat → Nat → Nat → Nat → Option (Nat × List UInt8)
  | [], _, _, _, _ => none
  | c :: cs, i, w, k, bias =>
    match pdig c with
    | none => none
    | some d =>
      if d < pthr k bias then some (i + d * w, cs) else if 59652323 ≤ w then none else pread cs (i + d * w) (w * (36 - pthr k bias)) (k + 36) bias
/-- The loop of the bias. -/
def pbias (delta k : Nat) : Nat :=
  if h : 455 < delta then pbias (delta / 35) (k + 36) else k + 36 * delta / (delta + 38)
termination_by delta
decreasing_by omega
theorem pbias_big {delta k : Nat} (h : 455 < delta) : pbias delta k = pbias (delta / 35) (k + 36) := by rw [pbias, dif_pos h]
theorem pbias_small {delta k : Nat} (h : ¬ 455 < delta) : pbias delta k = k + 36 * delta / (delta + 38) := by rw [pbias, dif_neg h]
def pdelta0 (delta m : Nat) (first : Bool) : Nat := (if first then delta / 700 else delta / 2) + (if first then delta / 700 else delta / 2) / m
def padapt (delta m : Nat) (first : Bool) : Nat := pbias (pdelta0 delta m first) 0
theorem padapt_eq {i D0 D1 D2 m : Nat} (h1 : D1 = (if decide (i = 0) = true then D0 / 700 else D0 / 2)) (h2 : D1 / m = D2) : padapt D0 m (decide (i = 0)) = pbias (D1 + D2) 0 := by
  unfold padapt pdelta0
  rw [← h1, h2]
def pscalar (n : Nat) : Bool := decide (n < 55296) || (decide (57343 < n) && decide (n ≤ 1114111))
theorem pscalar_big {n : Nat} (h : 1114111 < n) : pscalar n = false := by
  unfold pscalar
  rw [decide_eq_false (by omega), decide_eq_false (show ¬ n ≤ 1114111 by omega), Bool.and_false]
  rfl
theorem validRune_nat (n : Nat) : Lib.validRune (n : Int) = pscalar n := by
  unfold Lib.validRune pscalar
  rw [← Bool.decide_and, ← Bool.decide_or]
  exact decide_eq_decide.2 (by omega)
/-- The characters read. -/
def pdec : Nat → List UInt8 → Nat → Nat → Nat → List Nat → Option (List Nat)
  | _, [], _, _, _, out => some out
  | 0, _ :: _, _, _, _, _ => none
  | f + 1, c :: cs, n, i, bias, out =>
    match pread (c :: cs) i 1 36 bias with
    | none => none
    | some (i', rest) =>
      if pscalar (n + i' / (out.length + 1)) = true then
        pdec f rest (n + i' / (out.length + 1)) (i' % (out.length + 1) + 1) (padapt (i' - i) (out.length + 1) (decide (i = 0)))
          (out.take (i' % (out.length + 1)) ++ (n + i' / (out.length + 1)) :: out.drop (i' % (out.length + 1)))
      else none
theorem pread_len : ∀ (l : List UInt8) (i w k bias : Nat) {r : Nat × List UInt8}, pread l i w k bias = some r → r.2.length < l.length
  | [], _, _, _, _, _, h => by simp [pread] at h
  | c :: cs, i, w, k, bias, r, h => by
    rw [pread] at h
    split at h
    · cases h
    · split at h
      · simp only [Option.some.injEq] at h
        subst h
        simp
      · split at h
        · cases h
        · have := pread_len cs _ _ _ _ h
          simp; omega
/-- How a delta goes on. -/
theorem pread_bad {c : UInt8} {cs : List UInt8} {i w k bias : Nat} (h : pdig c = none) : pread (c :: cs) i w k bias = none := by rw [pread, h]
theorem pread_end {c : UInt8} {cs : List UInt8} {i w k bias d : Nat} (h : pdig c = some d) (hd : d < pthr k bias) : pread (c :: cs) i w k bias = some (i + d * w, cs) := by rw [pread, h]; simp only; rw [if_pos hd]
theorem pread_big {c : UInt8} {cs : List UInt8} {i w k bias d : Nat} (h : pdig c = some d) (hd : ¬ d < pthr k bias) (hw : 59652323 ≤ w) : pread (c :: cs) i w k bias = none := by rw [pread, h]; simp only; rw [if_neg hd, if_pos hw]
theorem pread_on {c : UInt8} {cs : List UInt8} {i w k bias d : Nat} (h : pdig c = some d) (hd : ¬ d < pthr k bias) (hw : ¬ 59652323 ≤ w) : pread (c :: cs) i w k bias = pread cs (i + d * w) (w * (36 - pthr k bias)) (k + 36) bias := by rw [pread, h]; simp only; rw [if_neg hd, if_neg hw]
end Go.Proofs.Yteeodkmhelmedaa
