/- The reference's numbers: a remainder of at least 0; a number written in base 62; a disambiguator. -/
import Derived.Test.YtokjbdofpdncdaaDoorDigits
import Derived.Test.YtokjbdofpdncdaaDoorArg
import Derived.Deep.LoopGhost
namespace Go.Proofs.YtokjbdofpdncdaaDoor
open Go.RowKit
set_option linter.unusedVariables false
attribute [local go_sem] bs_size

/-- 2 to the power of 62, and more, behind names: a numeral of that size in the context ends the walk. -/
theorem ext_dig (k : Nat) : (ByteArray.mk #[48, 49, 50, 51, 52, 53, 54, 55, 56, 57, 97, 98, 99, 100, 101, 102, 103, 104, 105, 106, 107, 108, 109, 110, 111, 112, 113, 114, 115, 116, 117, 118, 119, 120, 121, 122, 65, 66, 67, 68, 69, 70, 71, 72, 73, 74, 75, 76, 77, 78, 79, 80, 81, 82, 83, 84, 85, 86, 87, 88, 89, 90]).extract (k % 62) (k % 62 + 1) = bs [dig (k % 62)] := by
  show (bs digTab).extract _ _ = _
  rw [bs_extract]
  congr 1
  have : ∀ j, j < 62 → (digTab.drop j).take (j + 1 - j) = [dig j] := by decide +kernel
  exact this _ (by omega)
theorem bs_cat (x y : List UInt8) : bs x ++ ByteArray.mk y.toArray = bs (x ++ y) := bs_append x y
attribute [local go_sem] ext_dig bs_append bs_cat

theorem digsAcc_ge : ∀ (n : Nat) (acc : List UInt8), acc.length ≤ (digsAcc n acc).length := by
  intro n
  induction n using Nat.strongRecOn with
  | _ n ih =>
    intro acc
    by_cases h : n = 0
    · subst h; rw [digsAcc_zero]; omega
    · rw [digsAcc_pos h]
      have := ih (n / 62) (by omega) (dig (n % 62) :: acc)
      simp at this
      omega

def big62 : Int := 4611686018427387904
def maxI64 : Int := 9223372036854775807

theorem ret_i64 {a b : Int} (h : a = b) : Ending.returned (.int .i64 a) = .returned (.int .i64 b) := by rw [h]

theorem idAt_any {i n : Int} (hi : (Lit.int .i64 i).wf = true) (h0 : 0 < n) (hn : n ≤ big62) (w : World) :
    Calls Tryd.prog 34 #[.int .i64 i, .int .i64 n] w fun e w' => e = .returned (.int .i64 (i % n)) ∧ w = w' := by
  have hi' : -9223372036854775808 ≤ i ∧ i ≤ 9223372036854775807 := by simpa [Lit.wf, IntKind.min, IntKind.max, IntKind.signed, IntKind.bits] using hi
  unfold big62 at hn
  go_enter Tryd.func34, Tryd.ntmps34
  go_wp2
  go_ret
  refine ⟨ret_i64 ?_, rfl⟩
  have e1 : i.tmod n = if 0 ≤ i then i % n else -((-i) % n) := tmod_eq_if i n
  have hm1 := Int.emod_nonneg i (show n ≠ 0 by omega)
  have hm2 := Int.emod_lt_of_pos i h0
  have hk1 := Int.emod_nonneg (-i) (show n ≠ 0 by omega)
  have hk2 := Int.emod_lt_of_pos (-i) h0
  have hr : -n < i.tmod n ∧ i.tmod n < n := by rw [e1]; split <;> omega
  have e2 : wrap64 (i.tmod n + n) = i.tmod n + n := by unfold wrap64; omega
  rw [e2, Int.tmod_eq_emod_of_nonneg (by omega), Int.add_emod_right, e1]
  split
  · exact Int.emod_emod_of_dvd i (Int.dvd_refl n)
  · have h := Int.emod_add_mul_ediv (-i) n
    have e3 : -(-i % n) = i + n * (-i / n) := by
      generalize n * (-i / n) = t at h ⊢
      omega
    rw [e3, Int.add_mul_emod_self_left]


/-- A disambiguator. -/
def disOf (n : Nat) : List UInt8 := if n = 0 then [] else 115 :: b62of (n - 1)
theorem disOf_length (n : Nat) (h : n ≤ 18446744073709551615) : (disOf n).length ≤ 21 := by
  unfold disOf
  split
  · simp
  · have := b62of_length (n - 1) (by omega)
    simp only [List.length_cons]
    omega

end Go.Proofs.YtokjbdofpdncdaaDoor
