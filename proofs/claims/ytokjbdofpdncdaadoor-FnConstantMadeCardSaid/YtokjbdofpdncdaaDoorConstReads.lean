/- What constants that are written are read as. No memory, no program. -/
import Derived.Test.YtokjbdofpdncdaaDoorConstP
import Derived.Test.YtokjbdofpdncdaaDoorDigits
namespace Go.Proofs.YtokjbdofpdncdaaDoor
open Go.RowKit Go.Lib
set_option linter.unusedVariables false

/-- What the text s is read as: the constant's text, and what follows it. -/
def ConstReads (s : List UInt8) (res : Option (List UInt8 × List UInt8)) : Prop :=
  (∃ (c : UInt8) (l m : List UInt8) (k : Nat) (neg : Bool) (r : Option (Nat × Nat × List UInt8)), s = c :: l ∧ c ∈ kindLetters ∧ kindOf c = k ∧ Signed k l neg m ∧ hexgo 0 0 m = some r ∧ ConstFits k r ∧
    res = r.map fun p => (signText neg ++ (kindText k p.1).getD [], p.2.2)) ∨
  (∃ l, s = 112 :: l ∧ res = some ([95], l)) ∨
  (∃ (n : Nat) (t : List UInt8), n ≤ 4611686018427387904 ∧ s = 66 :: (b62of n ++ t) ∧ res = none)

theorem fits_int {k n : Nat} {t : List UInt8} (hk : k = 1 ∨ k = 2) (hn : n ≤ 18446744073709551615) : ConstFits k (some (n, (hexL n).length, t)) := by
  refine ⟨hexL_pos n, hexL_64 n hn, fun h => by omega, fun h => by omega, ?_, by omega⟩
  unfold kindText
  rw [if_pos (by omega)]
  rfl
theorem kindText_int {k n : Nat} (hk : k = 1 ∨ k = 2) : (kindText k n).getD [] = decDigits n := by
  unfold kindText
  rw [if_pos (by omega)]
  rfl
theorem hexL_head : ∀ (n : Nat), ∃ (d : UInt8) (t : List UInt8), hexL n = d :: t ∧ d ≠ 110 := by
  intro n
  induction n using Nat.strongRecOn with
  | ind n ih =>
    by_cases h : n < 16
    · have hd : ∀ k, k < 16 → hexDig k ≠ 110 := by decide +kernel
      exact ⟨hexDig n, [], hexL_small h, hd n h⟩
    · obtain ⟨d, t, e, hd⟩ := ih (n / 16) (by omega)
      exact ⟨d, t ++ [hexDig (n % 16)], by rw [hexL_big h, e]; rfl, hd⟩

/-- An unsigned number. -/
theorem reads_uns {c : UInt8} (hc : c ∈ kindLetters) (hk : kindOf c = 2) {n : Nat} (hn : n ≤ 18446744073709551615) (t : List UInt8) :
    ConstReads (c :: (hexL n ++ 95 :: t)) (some (decDigits n, t)) :=
  .inl ⟨c, _, _, 2, false, _, rfl, hc, hk, .inr (.inr ⟨by decide, rfl, rfl⟩), hexgo_read n t hn, fits_int (.inr rfl) hn, by
    simp only [Option.map_some, kindText_int (.inr rfl)]
    rfl⟩
theorem reads_sig {c : UInt8} (hc : c ∈ kindLetters) (hk : kindOf c = 1) {n : Nat} (hn : n ≤ 18446744073709551615) (t : List UInt8) :
    ConstReads (c :: (hexL n ++ 95 :: t)) (some (decDigits n, t)) :=
  .inl ⟨c, _, _, 1, false, _, rfl, hc, hk, .inr (.inl ⟨rfl, by
    obtain ⟨d, u, e, hd⟩ := hexL_head n
    exact ⟨d, u ++ 95 :: t, by rw [e]; rfl, hd⟩, rfl, rfl⟩), hexgo_read n t hn, fits_int (.inl rfl) hn, by
    simp only [Option.map_some, kindText_int (.inl rfl)]
    rfl⟩
theorem reads_neg {c : UInt8} (hc : c ∈ kindLetters) (hk : kindOf c = 1) {n : Nat} (hn : n ≤ 18446744073709551615) (t : List UInt8) :
    ConstReads (c :: 110 :: (hexL n ++ 95 :: t)) (some (45 :: decDigits n, t)) :=
  .inl ⟨c, _, _, 1, true, _, rfl, hc, hk, .inl ⟨rfl, rfl, rfl⟩, hexgo_read n t hn, fits_int (.inl rfl) hn, by
    simp only [Option.map_some, kindText_int (.inl rfl)]
    rfl⟩
theorem reads_bool {n : Nat} (hn : n ≤ 1) (t : List UInt8) :
    ConstReads (98 :: (hexL n ++ 95 :: t)) (some (if n = 1 then [116, 114, 117, 101] else [102, 97, 108, 115, 101], t)) :=
  .inl ⟨98, _, _, 3, false, _, rfl, by decide, by decide, .inr (.inr ⟨by decide, rfl, rfl⟩), hexgo_read n t (by omega), by
    rcases Nat.le_one_iff_eq_zero_or_eq_one.1 hn with rfl | rfl
    · exact ⟨hexL_pos _, hexL_64 _ (by omega), fun _ => hexL_len 0 _ (by decide), fun h => by omega, by decide, by decide⟩
    · exact ⟨hexL_pos _, hexL_64 _ (by omega), fun _ => hexL_len 0 _ (by decide), fun h => by omega, by decide, by decide⟩, by
    rcases Nat.le_one_iff_eq_zero_or_eq_one.1 hn with rfl | rfl <;> rfl⟩
theorem reads_char {n : Nat} (h1 : 32 ≤ n) (h2 : n ≤ 126) (h3 : n ≠ 39) (h4 : n ≠ 92) (t : List UInt8) :
    ConstReads (99 :: (hexL n ++ 95 :: t)) (some ([39, UInt8.ofNat n, 39], t)) := by
  have hk : kindText 4 n = some [39, UInt8.ofNat n, 39] := by
    unfold kindText
    rw [if_neg (by decide), if_neg (by decide), if_pos ⟨h1, h2, h3, h4⟩]
  exact .inl ⟨99, _, _, 4, false, _, rfl, by decide, by decide, .inr (.inr ⟨by decide, rfl, rfl⟩), hexgo_read n t (by omega),
    ⟨hexL_pos _, hexL_64 _ (by omega), fun h => by omega, fun _ => Nat.le_trans (hexL_len 1 _ (by omega)) (by decide), by rw [hk]; rfl, by omega⟩, by
    simp only [Option.map_some, hk]
    rfl⟩
theorem reads_ends {c d : UInt8} (hc : c ∈ kindLetters) (hk : kindOf c = 2) {n : Nat} (hn : n ≤ 18446744073709551615) (hd : d ≠ 95) (hx : hexd d = none) (t : List UInt8) :
    ConstReads (c :: (hexL n ++ d :: t)) none :=
  .inl ⟨c, _, _, 2, false, _, rfl, hc, hk, .inr (.inr ⟨by decide, rfl, rfl⟩), hexgo_ends n d t hn hd hx, trivial, rfl⟩
theorem reads_hole (t : List UInt8) : ConstReads (112 :: t) (some ([95], t)) := .inr (.inl ⟨t, rfl, rfl⟩)
theorem reads_back {n : Nat} (hn : n ≤ 4611686018427387904) (t : List UInt8) : ConstReads (66 :: (b62of n ++ t)) none := .inr (.inr ⟨n, t, hn, rfl, rfl⟩)
end Go.Proofs.YtokjbdofpdncdaaDoor
