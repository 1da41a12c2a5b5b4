/- Numbers written in base 62. No memory, no program. -/
import Derived.Test.YtokjbdofpdncdaaDoorNum
namespace Go.Proofs.YtokjbdofpdncdaaDoor
open Go.RowKit
set_option linter.unusedVariables false

def digTab : List UInt8 := [48, 49, 50, 51, 52, 53, 54, 55, 56, 57, 97, 98, 99, 100, 101, 102, 103, 104, 105, 106, 107, 108, 109, 110, 111, 112, 113, 114, 115, 116, 117, 118, 119, 120, 121, 122, 65, 66, 67, 68, 69, 70, 71, 72, 73, 74, 75, 76, 77, 78, 79, 80, 81, 82, 83, 84, 85, 86, 87, 88, 89, 90]
/-- The digit of a number below 62. -/
def dig (k : Nat) : UInt8 := digTab.getD k 0
theorem dig_num : ∀ k, k < 62 → dig62 (dig k) = some (k : Int) ∧ dig k ≠ 95 := by decide +kernel
/-- The digits of n ahead of those that are there. -/
def digsAcc (n : Nat) (acc : List UInt8) : List UInt8 := if h : n = 0 then acc else digsAcc (n / 62) (dig (n % 62) :: acc)
termination_by n
decreasing_by omega
theorem digsAcc_zero (acc : List UInt8) : digsAcc 0 acc = acc := by rw [digsAcc]; simp
theorem digsAcc_pos {n : Nat} (h : n ≠ 0) (acc : List UInt8) : digsAcc n acc = digsAcc (n / 62) (dig (n % 62) :: acc) := by
  conv => lhs; rw [digsAcc]
  simp [h]
/-- A number in base 62. -/
def b62of (n : Nat) : List UInt8 := if n = 0 then [95] else digsAcc ((n - 1) / 62) [dig ((n - 1) % 62), 95]

theorem digsAcc_app : ∀ (n : Nat) (acc t : List UInt8), digsAcc n (acc ++ t) = digsAcc n acc ++ t := by
  intro n
  induction n using Nat.strongRecOn with
  | _ n ih =>
    intro acc t
    by_cases h : n = 0
    · subst h; rw [digsAcc_zero, digsAcc_zero]
    · rw [digsAcc_pos h, digsAcc_pos h, ← List.cons_append, ih _ (by omega)]

theorem b62go_cons {c : UInt8} {d : Int} (v : Int) (l : List UInt8) (h : c ≠ 95) (hd : dig62 c = some d) : b62go v (c :: l) = b62go (wrap64 (wrap64 (v * 62) + d)) l := by
  simp [b62go, h, hd]

theorem b62go_digs : ∀ (n : Nat) (acc : List UInt8), n < 4611686018427387904 → b62go 0 (digsAcc n acc) = b62go n acc := by
  intro n
  induction n using Nat.strongRecOn with
  | _ n ih =>
    intro acc hn
    by_cases h : n = 0
    · subst h; rw [digsAcc_zero]; rfl
    · rw [digsAcc_pos h, ih _ (by omega) _ (by omega)]
      have hd := dig_num (n % 62) (by omega)
      rw [b62go_cons _ _ hd.2 hd.1]
      have e : wrap64 (wrap64 (((n / 62 : Nat) : Int) * 62) + ((n % 62 : Nat) : Int)) = (n : Int) := by
        unfold wrap64
        omega
      rw [e]

/-- All of them are digits. -/
def AllDig (l : List UInt8) : Prop := ∀ c ∈ l, c ≠ 95 ∧ (dig62 c).isSome = true
theorem allDig_digs : ∀ (n : Nat) (acc : List UInt8), AllDig acc → AllDig (digsAcc n acc) := by
  intro n
  induction n using Nat.strongRecOn with
  | _ n ih =>
    intro acc ha
    by_cases h : n = 0
    · subst h; rw [digsAcc_zero]; exact ha
    · rw [digsAcc_pos h]
      refine ih _ (by omega) _ ?_
      have hd := dig_num (n % 62) (by omega)
      intro c hc
      rcases List.mem_cons.1 hc with rfl | hc
      · exact ⟨hd.2, by rw [hd.1]; rfl⟩
      · exact ha c hc
theorem b62go_allDig : ∀ (l : List UInt8) (v : Int), AllDig l → b62go v l = none := by
  intro l
  induction l with
  | nil => intro v _; rfl
  | cons c l ih =>
    intro v h
    obtain ⟨h1, h2⟩ := h c (List.mem_cons_self ..)
    obtain ⟨d, hd⟩ := Option.isSome_iff_exists.1 h2
    rw [b62go_cons _ _ h1 hd]
    exact ih _ fun c hc => h c (List.mem_cons_of_mem _ hc)
theorem b62_allDig {l : List UInt8} (h : AllDig l) : b62 l = none := by
  cases l with
  | nil => rfl
  | cons c l =>
    obtain ⟨h1, _⟩ := h c (List.mem_cons_self ..)
    simp only [b62, h1, if_false]
    exact b62go_allDig _ _ h

/-- The digits of a number above 0. -/
theorem b62of_pos {n : Nat} (h : n ≠ 0) : b62of n = digsAcc ((n - 1) / 62) [dig ((n - 1) % 62)] ++ [95] := by
  rw [b62of, if_neg h, ← digsAcc_app]; rfl
theorem allDig_b62of (n : Nat) : AllDig (digsAcc ((n - 1) / 62) [dig ((n - 1) % 62)]) := by
  refine allDig_digs _ _ ?_
  have hd := dig_num ((n - 1) % 62) (by omega)
  intro c hc
  rcases List.mem_cons.1 hc with rfl | hc
  · exact ⟨hd.2, by rw [hd.1]; rfl⟩
  · cases hc

theorem b62_of_go {c : UInt8} {l : List UInt8} (h : c ≠ 95) : b62 (c :: l) = b62go 0 (c :: l) := by simp [b62, h]
theorem b62_read {n : Nat} (hn : n ≤ 4611686018427387904) (t : List UInt8) : b62 (b62of n ++ t) = some ((n : Int), t) := by
  by_cases h : n = 0
  · subst h; rfl
  · have hall := allDig_b62of n
    have hb : b62go 0 (b62of n ++ t) = some ((n : Int), t) := by
      rw [b62of_pos h, List.append_assoc, ← digsAcc_app, b62go_digs _ _ (by omega)]
      have hd := dig_num ((n - 1) % 62) (by omega)
      show b62go _ (dig ((n - 1) % 62) :: 95 :: t) = _
      rw [b62go_cons _ _ hd.2 hd.1]
      have e : wrap64 (wrap64 ((((n - 1) / 62 : Nat) : Int) * 62) + (((n - 1) % 62 : Nat) : Int)) = ((n - 1 : Nat) : Int) := by
        unfold wrap64
        omega
      rw [e]
      show some (wrap64 (((n - 1 : Nat) : Int) + 1), t) = _
      have e2 : wrap64 (((n - 1 : Nat) : Int) + 1) = (n : Int) := by
        unfold wrap64
        omega
      rw [e2]
    rw [← hb, b62of_pos h]
    generalize hg : digsAcc ((n - 1) / 62) [dig ((n - 1) % 62)] = g at hall
    cases g with
    | nil =>
      exfalso
      have : ∀ (n : Nat) (acc : List UInt8), acc ≠ [] → digsAcc n acc ≠ [] := by
        intro n
        induction n using Nat.strongRecOn with
        | _ n ih =>
          intro acc ha
          by_cases h : n = 0
          · subst h; rw [digsAcc_zero]; exact ha
          · rw [digsAcc_pos h]; exact ih _ (by omega) _ (by simp)
      exact this _ _ (by simp) hg
    | cons c g => exact b62_of_go (hall c (List.mem_cons_self ..)).1

/-- A number whose end is missing. -/
theorem b62_cut {n k : Nat} (hk : k < (b62of n).length) : b62 ((b62of n).take k) = none := by
  by_cases h : n = 0
  · subst h
    have : k = 0 := by simp [b62of] at hk; omega
    subst this; rfl
  · rw [b62of_pos h] at hk ⊢
    rw [List.take_append_of_le_length (by simp at hk; omega)]
    exact b62_allDig fun c hc => allDig_b62of n c (List.mem_of_mem_take hc)

theorem b62of_length_pos (n : Nat) : 0 < (b62of n).length := by
  by_cases h : n = 0
  · subst h; decide
  · rw [b62of_pos h]; simp

theorem digsAcc_length : ∀ (m n : Nat) (acc : List UInt8), n < 62 ^ m → (digsAcc n acc).length ≤ acc.length + m := by
  intro m
  induction m with
  | zero => intro n acc h; have : n = 0 := by simpa using h
            subst this; rw [digsAcc_zero]; omega
  | succ m ih =>
    intro n acc h
    by_cases h0 : n = 0
    · subst h0; rw [digsAcc_zero]; omega
    · rw [digsAcc_pos h0]
      have := ih (n / 62) (dig (n % 62) :: acc) (by rw [Nat.div_lt_iff_lt_mul (by omega)]; rw [Nat.pow_succ] at h; exact h)
      simp only [List.length_cons] at this
      omega
theorem b62of_length (n : Nat) (h : n ≤ 18446744073709551615) : (b62of n).length ≤ 20 := by
  by_cases h0 : n = 0
  · subst h0; decide
  · rw [b62of, if_neg h0]
    have := digsAcc_length 11 ((n - 1) / 62) [dig ((n - 1) % 62), 95] (by omega)
    simp at this
    omega
end Go.Proofs.YtokjbdofpdncdaaDoor
