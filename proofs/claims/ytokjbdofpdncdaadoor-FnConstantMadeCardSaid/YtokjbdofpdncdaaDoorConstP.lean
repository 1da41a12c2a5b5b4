/- What the digits of a constant come to, and how it is told. No memory, no program. -/
import Derived.Test.YtokjbdofpdncdaaDoorDecRead
namespace Go.Proofs.YtokjbdofpdncdaaDoor
open Go.RowKit Go.Lib
set_option linter.unusedVariables false

def hexd (c : UInt8) : Option Nat :=
  if 48 ≤ c.toNat ∧ c.toNat ≤ 57 then some (c.toNat - 48) else if 97 ≤ c.toNat ∧ c.toNat ≤ 102 then some (c.toNat - 97 + 10) else none
def headIs (c : UInt8) : List UInt8 → Bool
  | [] => false
  | d :: _ => decide (d = c)
/-- The digits behind v, of which there were n, and what follows the underscore; 'none': they do not end. -/
def hexgo : Nat → Nat → List UInt8 → Option (Option (Nat × Nat × List UInt8))
  | _, _, [] => none
  | v, n, c :: l => if c = 95 then some (some (v, n, l)) else
    match hexd c with
    | none => some none
    | some x => if v = 0 ∧ x = 0 ∧ headIs 95 l = false then some none else hexgo ((v * 16 + x) % 18446744073709551616) (n + 1) l

def kindOf (c : UInt8) : Nat :=
  if c = 97 ∨ c = 115 ∨ c = 108 ∨ c = 120 ∨ c = 110 ∨ c = 105 then 1
  else if c = 104 ∨ c = 116 ∨ c = 109 ∨ c = 121 ∨ c = 111 ∨ c = 106 then 2
  else if c = 98 then 3 else if c = 99 then 4 else 0
def kindLetters : List UInt8 := [97, 115, 108, 120, 110, 105, 104, 116, 109, 121, 111, 106, 98, 99]

theorem hexgo_under {x n : Nat} {t : List UInt8} : hexgo x n (95 :: t) = some (some (x, n, t)) := by simp [hexgo]
theorem hexgo_bad {x n : Nat} {d : UInt8} {t : List UInt8} (h : d ≠ 95) (hd : hexd d = none) : hexgo x n (d :: t) = some none := by simp [hexgo, h, hd]
theorem hexgo_zero {n : Nat} {d : UInt8} {t : List UInt8} (h : d ≠ 95) (hd : hexd d = some 0) (ht : headIs 95 t = false) : hexgo 0 n (d :: t) = some none := by simp [hexgo, h, hd, ht]
theorem hexgo_on {x n y : Nat} {d : UInt8} {t : List UInt8} (h : d ≠ 95) (hd : hexd d = some y) (hz : ¬ (x = 0 ∧ y = 0 ∧ headIs 95 t = false)) : hexgo x n (d :: t) = hexgo ((x * 16 + y) % 18446744073709551616) (n + 1) t := by
  conv => lhs; unfold hexgo
  rw [if_neg h, hd]
  simp only
  rw [if_neg hz]

/-- The text of a number of this kind. -/
def kindText (k v : Nat) : Option (List UInt8) :=
  if k ≤ 2 then some (decDigits v)
  else if k = 3 then (if v = 0 then some [102, 97, 108, 115, 101] else if v = 1 then some [116, 114, 117, 101] else none)
  else if 32 ≤ v ∧ v ≤ 126 ∧ v ≠ 39 ∧ v ≠ 92 then some [39, UInt8.ofNat v, 39] else none
def signText (neg : Bool) : List UInt8 := if neg then [45] else []
/-- How the digits stand behind the letter. -/
def Signed (k : Nat) (l : List UInt8) (neg : Bool) (m : List UInt8) : Prop :=
  (k = 1 ∧ l = 110 :: m ∧ neg = true) ∨ (k = 1 ∧ (∃ d t, l = d :: t ∧ d ≠ 110) ∧ m = l ∧ neg = false) ∨ (k ≠ 1 ∧ m = l ∧ neg = false)
def ConstFits (k : Nat) (res : Option (Nat × Nat × List UInt8)) : Prop :=
  match res with
  | none => True
  | some (v, n, r) => 1 ≤ n ∧ n ≤ 16 ∧ (k = 3 → n ≤ 1) ∧ (k = 4 → n ≤ 6) ∧ (kindText k v).isSome = true ∧ v < 18446744073709551616

/-- A digit in base 16. -/
def hexTab : List UInt8 := [48, 49, 50, 51, 52, 53, 54, 55, 56, 57, 97, 98, 99, 100, 101, 102]
def hexDig (k : Nat) : UInt8 := hexTab.getD k 0
theorem hexDig_num : ∀ k, k < 16 → hexd (hexDig k) = some k ∧ hexDig k ≠ 95 := by decide +kernel
/-- A number in base 16. -/
def hexL (n : Nat) : List UInt8 := if h : n < 16 then [hexDig n] else hexL (n / 16) ++ [hexDig (n % 16)]
termination_by n
decreasing_by omega
theorem hexL_small {n : Nat} (h : n < 16) : hexL n = [hexDig n] := by rw [hexL, dif_pos h]
theorem hexL_big {n : Nat} (h : ¬ n < 16) : hexL n = hexL (n / 16) ++ [hexDig (n % 16)] := by
  conv => lhs; rw [hexL]
  rw [dif_neg h]
theorem hexL_pos (n : Nat) : 1 ≤ (hexL n).length := by
  by_cases h : n < 16
  · rw [hexL_small h]; simp
  · rw [hexL_big h]; simp
theorem hexL_len (k : Nat) : ∀ n : Nat, n < 16 ^ (k + 1) → (hexL n).length ≤ k + 1 := by
  induction k with
  | zero => intro n h; rw [hexL_small (by omega)]; simp
  | succ k ih =>
    intro n h
    by_cases h1 : n < 16
    · rw [hexL_small h1]; simp
    · rw [hexL_big h1]
      have := ih (n / 16) (by rw [Nat.pow_succ] at h; omega)
      simp
      omega
theorem hexL_64 (n : Nat) (h : n ≤ 18446744073709551615) : (hexL n).length ≤ 16 := hexL_len 15 n (by omega)

/-- The digits are read. -/
theorem hexgo_hexL : ∀ (n : Nat) (t : List UInt8), n ≤ 18446744073709551615 → (n ≠ 0 ∨ headIs 95 t = true) → hexgo 0 0 (hexL n ++ t) = hexgo n (hexL n).length t := by
  intro n
  induction n using Nat.strongRecOn with
  | ind n ih =>
    intro t hn ht
    by_cases h : n < 16
    · rw [hexL_small h]
      have hd := hexDig_num n h
      show hexgo 0 0 (hexDig n :: t) = _
      rw [hexgo_on hd.2 hd.1 (fun hz => by
        rcases ht with h1 | h1
        · exact h1 hz.2.1
        · rw [h1] at hz; cases hz.2.2)]
      rw [show (0 * 16 + n) % 18446744073709551616 = n by omega]
      rfl
    · rw [hexL_big h, List.append_assoc, ih (n / 16) (by omega) _ (by omega) (.inl (by omega))]
      have hd := hexDig_num (n % 16) (by omega)
      show hexgo (n / 16) _ (hexDig (n % 16) :: t) = _
      rw [hexgo_on hd.2 hd.1 (fun hz => by omega)]
      rw [show (n / 16 * 16 + n % 16) % 18446744073709551616 = n by omega]
      simp
theorem hexgo_read (n : Nat) (t : List UInt8) (hn : n ≤ 18446744073709551615) : hexgo 0 0 (hexL n ++ 95 :: t) = some (some (n, (hexL n).length, t)) := by
  rw [hexgo_hexL n _ hn (.inr (by simp [headIs])), hexgo_under]
theorem hexgo_ends (n : Nat) (c : UInt8) (t : List UInt8) (hn : n ≤ 18446744073709551615) (hc : c ≠ 95) (hx : hexd c = none) : hexgo 0 0 (hexL n ++ c :: t) = some none := by
  by_cases h0 : n = 0
  · subst h0
    rw [hexL_small (by decide)]
    show hexgo 0 0 (48 :: c :: t) = _
    exact hexgo_zero (by decide) rfl (by simpa [headIs] using hc)
  · rw [hexgo_hexL n _ hn (.inl h0), hexgo_bad hc hx]
end Go.Proofs.YtokjbdofpdncdaaDoor
