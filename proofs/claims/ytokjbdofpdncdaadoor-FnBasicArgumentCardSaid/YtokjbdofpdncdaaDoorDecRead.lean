/- Decimal numerals are read back; what is cut of one is a numeral. No memory, no program. -/
import Derived.Test.YtokjbdofpdncdaaDoorDecP
import Derived.Lib.ItoaNum
import Derived.Lib.ItoaMem
namespace Go.Proofs.YtokjbdofpdncdaaDoor
open Go.RowKit Go.Lib
set_option linter.unusedVariables false

theorem digit_byte {d : Nat} (h : d < 10) : (UInt8.ofNat (48 + d)).toNat = 48 + d := by
  rw [UInt8.toNat_ofNat']; omega
theorem digit_isDig {d : Nat} (h : d < 10) : isDig (UInt8.ofNat (48 + d)) = true := by
  unfold isDig; rw [digit_byte h]; exact decide_eq_true (by omega)
theorem decDigits_small {n : Nat} (h : n < 10) : decDigits n = [UInt8.ofNat (48 + n)] := by rw [decDigits, dif_pos h]
theorem decDigits_big {n : Nat} (h : ¬ n < 10) : decDigits n = decDigits (n / 10) ++ [UInt8.ofNat (48 + n % 10)] := by rw [decDigits, dif_neg h]
theorem decDigits_dig (n : Nat) : ∀ c ∈ decDigits n, isDig c = true := by
  induction n using Nat.strongRecOn with
  | ind n ih =>
    by_cases h : n < 10
    · rw [decDigits_small h]
      intro c hc
      rw [List.mem_singleton.1 hc]
      exact digit_isDig h
    · rw [decDigits_big h]
      intro c hc
      rcases List.mem_append.1 hc with hc | hc
      · exact ih (n / 10) (by omega) c hc
      · rw [List.mem_singleton.1 hc]
        exact digit_isDig (by omega)
theorem decDigits_pos (n : Nat) : decDigits n ≠ [] := by
  by_cases h : n < 10
  · rw [decDigits_small h]; simp
  · rw [decDigits_big h]; simp
theorem decDigits_len (m : Nat) : ∀ n : Nat, n < 10 ^ (m + 1) → (decDigits n).length ≤ m + 1 := by
  induction m with
  | zero => intro n h; rw [decDigits_small (by omega)]; simp
  | succ m ih =>
    intro n h
    by_cases h1 : n < 10
    · rw [decDigits_small h1]; simp
    · rw [decDigits_big h1]
      have := ih (n / 10) (by rw [Nat.pow_succ] at h; omega)
      simp
      omega
theorem decgo_digits {n : Nat} (hn : n ≤ 1000000000) (t : List UInt8) : decgo 0 (decDigits n ++ t) = decgo n t := by
  induction n using Nat.strongRecOn generalizing t with
  | ind n ih =>
    by_cases h : n < 10
    · rw [decDigits_small h]
      show decgo 0 (UInt8.ofNat (48 + n) :: t) = _
      rw [decgo_on (digit_isDig h) (by rw [digit_byte h]; omega), digit_byte h]
      congr 1
      omega
    · rw [decDigits_big h, List.append_assoc, ih (n / 10) (by omega) (by omega)]
      show decgo ((n / 10 : Nat) : Int) (UInt8.ofNat (48 + n % 10) :: t) = _
      rw [decgo_on (digit_isDig (by omega)) (by rw [digit_byte (by omega)]; omega), digit_byte (by omega)]
      congr 1
      omega
theorem decgo_end (x : Int) {t : List UInt8} (ht : ∀ c u, t = c :: u → isDig c = false) : decgo x t = some (x, t) := by
  cases t with
  | nil => rfl
  | cons c u => exact decgo_off (ht c u rfl)
theorem dec_read {n : Nat} (hn : n ≤ 1000000000) {t : List UInt8} (ht : ∀ c u, t = c :: u → isDig c = false) : dec (decDigits n ++ t) = some ((n : Int), t) := by
  have e : dec (decDigits n ++ t) = decgo 0 (decDigits n ++ t) := by
    cases h : decDigits n with
    | nil => exact absurd h (decDigits_pos n)
    | cons c l => rfl
  rw [e, decgo_digits hn, decgo_end _ ht]
/-- What is cut of a numeral is one. -/
theorem decDigits_cut (n : Nat) (hn : 0 < n) (k : Nat) (hk : 0 < k) : ∃ m, 0 < m ∧ m ≤ n ∧ (decDigits n).take k = decDigits m := by
  induction n using Nat.strongRecOn with
  | ind n ih =>
    by_cases h : n < 10
    · refine ⟨n, hn, Nat.le_refl _, List.take_of_length_le ?_⟩
      rw [decDigits_small h]
      simp
      omega
    · by_cases hl : (decDigits n).length ≤ k
      · exact ⟨n, hn, Nat.le_refl _, List.take_of_length_le hl⟩
      · obtain ⟨m, h1, h2, h3⟩ := ih (n / 10) (by omega) (by omega)
        refine ⟨m, h1, by omega, ?_⟩
        rw [decDigits_big h] at hl ⊢
        simp at hl
        rw [List.take_append_of_le_length (by omega)]
        exact h3
end Go.Proofs.YtokjbdofpdncdaaDoor
