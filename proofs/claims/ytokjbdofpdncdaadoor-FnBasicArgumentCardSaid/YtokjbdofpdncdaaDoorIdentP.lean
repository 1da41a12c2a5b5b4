/- What an identifier is that is not in Punycode. No memory, no program. -/
import Derived.Test.YtokjbdofpdncdaaDoorNum
namespace Go.Proofs.YtokjbdofpdncdaaDoor
open Go.RowKit
set_option linter.unusedVariables false

/-- A letter, a digit or an underscore. -/
def plainB (c : UInt8) : Bool := decide ((48 ≤ c.toNat ∧ c.toNat ≤ 57) ∨ (65 ≤ c.toNat ∧ c.toNat ≤ 90) ∨ (97 ≤ c.toNat ∧ c.toNat ≤ 122) ∨ c.toNat = 95)

/-- Without the underscore that may stand ahead. -/
def unUnder : List UInt8 → List UInt8
  | [] => []
  | c :: l => if c = 95 then l else c :: l

/-- An underscore stands ahead. -/
def isUnder : List UInt8 → Bool
  | [] => false
  | c :: _ => decide (c = 95)

theorem isUnder_yes {l : List UInt8} (h : isUnder l = true) : ∃ t, l = 95 :: t := by
  cases l with
  | nil => cases h
  | cons d t => exact ⟨t, by rw [of_decide_eq_true h]⟩
theorem isUnder_no {l : List UInt8} (h : isUnder l = false) : unUnder l = l := by
  cases l with
  | nil => rfl
  | cons d t =>
    have : ¬ d = 95 := of_decide_eq_false h
    simp only [unUnder, this, if_false]
theorem plain_cases {c : UInt8} (h : plainB c = true) : (48 ≤ c.toNat ∧ c.toNat ≤ 57) ∨ (65 ≤ c.toNat ∧ c.toNat ≤ 90) ∨ (97 ≤ c.toNat ∧ c.toNat ≤ 122) ∨ c.toNat = 95 := of_decide_eq_true h
theorem plain_not {c : UInt8} (h : plainB c = false) : ¬ ((48 ≤ c.toNat ∧ c.toNat ≤ 57) ∨ (65 ≤ c.toNat ∧ c.toNat ≤ 90) ∨ (97 ≤ c.toNat ∧ c.toNat ≤ 122) ∨ c.toNat = 95) := of_decide_eq_false h

/-- So many bytes, all of them plain; what follows. -/
def takeId (v : Int) (l : List UInt8) : Option (List UInt8 × List UInt8) :=
  if (l.length : Int) < v then none
  else if (l.take v.toNat).all plainB then some (l.take v.toNat, l.drop v.toNat) else none

/-- A number, an underscore or none, and so many bytes. -/
def ident (l : List UInt8) : Option (List UInt8 × List UInt8) :=
  match dec l with
  | none => none
  | some (v, l1) => takeId v (unUnder l1)

/-- A disambiguator. -/
def disa : List UInt8 → Option (Int × List UInt8)
  | [] => some (0, [])
  | c :: l => if c = 115 then (b62 l).map fun p => (wrap64 (p.1 + 1), p.2) else some (0, c :: l)

/-- It does not begin with u. -/
def noU (l : List UInt8) : Prop := ∀ t, l ≠ 117 :: t

theorem decgo_range : ∀ (l : List UInt8) (x : Int) (v : Int) (r : List UInt8), 0 ≤ x → x ≤ 2147483647 → decgo x l = some (v, r) → 0 ≤ v ∧ v ≤ 2147483647 ∧ r.length ≤ l.length := by
  intro l
  induction l with
  | nil => intro x v r h0 h1 h; simp [decgo] at h; obtain ⟨rfl, rfl⟩ := h; exact ⟨h0, h1, by simp⟩
  | cons c l ih =>
    intro x v r h0 h1 h
    unfold decgo at h
    by_cases hd : isDig c = true
    · have hd' : 48 ≤ c.toNat ∧ c.toNat ≤ 57 := of_decide_eq_true hd
      rw [if_pos hd] at h
      by_cases ho : 214748364 - ((c.toNat : Int) - 48) ≤ x
      · rw [if_pos ho] at h; cases h
      · rw [if_neg ho] at h
        obtain ⟨a, b, d⟩ := ih _ _ _ (by omega) (by omega) h
        exact ⟨a, b, by simp; omega⟩
    · rw [if_neg hd] at h
      simp at h
      obtain ⟨rfl, rfl⟩ := h
      exact ⟨h0, h1, by simp⟩
theorem dec_range {l : List UInt8} {v : Int} {r : List UInt8} (h : dec l = some (v, r)) : 0 ≤ v ∧ v ≤ 2147483647 ∧ r.length ≤ l.length := by
  cases l with
  | nil => cases h
  | cons c l => exact decgo_range _ _ _ _ (by decide) (by decide) h
theorem b62go_length : ∀ (l : List UInt8) (v n : Int) (r : List UInt8), b62go v l = some (n, r) → r.length ≤ l.length := by
  intro l
  induction l with
  | nil => intro v n r h; cases h
  | cons c l ih =>
    intro v n r h
    unfold b62go at h
    by_cases hc : c = 95
    · rw [if_pos hc] at h
      simp at h
      obtain ⟨_, rfl⟩ := h
      simp
    · rw [if_neg hc] at h
      cases hd : dig62 c with
      | none => rw [hd] at h; cases h
      | some d =>
        rw [hd] at h
        have := ih _ _ _ h
        simp
        omega
theorem b62_length {l : List UInt8} {n : Int} {r : List UInt8} (h : b62 l = some (n, r)) : r.length ≤ l.length := by
  cases l with
  | nil => cases h
  | cons c l =>
    replace h : (if c = 95 then some (0, l) else b62go 0 (c :: l)) = some (n, r) := h
    by_cases hc : c = 95
    · rw [if_pos hc] at h
      simp at h
      obtain ⟨_, rfl⟩ := h
      simp
    · rw [if_neg hc] at h
      exact b62go_length _ _ _ _ h
end Go.Proofs.YtokjbdofpdncdaaDoor
