/- Names cut to the greatest length; bytes behind their number. -/
import Derived.Test.YtoefegbbnaonoaaGreatDoorWord
import Derived.Test.YtoefegbbnaonoaaGreatDoorItoa
import Derived.Test.YtoefegbbnaonoaaGreatDoorIdentCnt
namespace Go.Proofs.YtoefegbbnaonoaaGreatDoor
open Go.RowKit Go.Lib
set_option linter.unusedVariables false
set_option maxRecDepth 100000
attribute [local go_sem] bs_size

theorem Bytes.take {w : World} {A : Option Addr} {n : Nat} {l : List UInt8} (h : Bytes w A n l) (k : Nat) (hk : k ≤ n) : Bytes w A k (l.take k) := by
  obtain ⟨rfl, h⟩ := h
  refine ⟨by simp; omega, ?_⟩
  rcases h with h | ⟨b, off, hA, hlt, hc⟩
  · exact .inl (by rw [h]; simp)
  · refine .inr ⟨b, off, hA, hlt, fun i hi => ?_⟩
    rw [hc i (by simp at hi; omega)]
    simp

theorem idCut_any {w : World} {A : Option Addr} {n c : Nat} (hc : n ≤ c) :
    Calls Tryz.prog 11 #[.slice A n c] w fun e w' => e = .returned (.slice A (min n 1000) c) ∧ w' = w := by
  have h1 : 0 ≤ min (n : Int) 1000 := by omega
  have h2 : min (n : Int) 1000 ≤ (c : Int) := by omega
  have e : (min (n : Int) 1000).toNat = min n 1000 := by omega
  replace e := Lib.hid e
  go_enter Tryz.func11, Tryz.ntmps11
  go_wp2
  go_ret
  refine ⟨?_, rfl⟩
  show Ending.returned (.slice A (min (n : Int) 1000).toNat c) = _
  rw [e.out]


/-! What the names are. -/
theorem plainAt_plain (c : UInt8) : plainB (plainAt 63 c) = true ∧ plainB (plainAt 62 c) = true ∧ plainB (plainAt 52 c) = true ∧ isDig (plainAt 52 c) = false ∧ plainAt 52 c ≠ 95 := by
  have h := fun (p : UInt8 → Bool) (hp : ((List.range 256).all fun n => p (UInt8.ofNat n)) = true) => (by
    have := List.all_eq_true.1 hp c.toNat (List.mem_range.2 c.toNat_lt)
    simpa using this : p c = true)
  have := h (fun c => plainB (plainAt 63 c) && plainB (plainAt 62 c) && plainB (plainAt 52 c) && !isDig (plainAt 52 c) && plainAt 52 c != 95) (by kernel_rfl)
  simp only [Bool.and_eq_true, Bool.not_eq_true', bne_iff_ne] at this
  exact ⟨this.1.1.1.1, this.1.1.1.2, this.1.1.2, this.1.2, this.2⟩
theorem plainOf_pos (l : List UInt8) : plainOf l ≠ [] := by
  unfold plainOf
  split
  · simp
  · simpa using by assumption
theorem plainOf_plain (l : List UInt8) : (plainOf l).all plainB = true := by
  unfold plainOf
  split
  · decide
  · rw [List.all_map]
    exact List.all_eq_true.2 (fun c _ => (plainAt_plain c).1)
theorem plainOf_length (l : List UInt8) (h : l.length ≤ 1000) : (plainOf l).length ≤ 1000 := by
  unfold plainOf
  split
  · simp
  · simpa using h
theorem wordOf_pos (l : List UInt8) : wordOf l ≠ [] := by
  cases l <;> simp [wordOf]
theorem wordOf_plain (l : List UInt8) : (wordOf l).all plainB = true := by
  cases l with
  | nil => decide
  | cons c l =>
    simp only [wordOf, List.all_cons, Bool.and_eq_true, List.all_map]
    exact ⟨(plainAt_plain c).2.2.1, List.all_eq_true.2 (fun c _ => (plainAt_plain c).2.1)⟩
theorem wordOf_length (l : List UInt8) (h : l.length ≤ 1000) : (wordOf l).length ≤ 1000 := by
  cases l with
  | nil => simp [wordOf]
  | cons c l => simpa [wordOf] using h
theorem wordOf_between (u : Bool) (l : List UInt8) : Between (if u then [95] else []) (wordOf l) := by
  cases u
  · refine .inr ⟨rfl, fun c t h => ?_⟩
    cases l with
    | nil =>
      simp [wordOf] at h
      rw [← h.1]
      decide
    | cons d l =>
      simp [wordOf] at h
      rw [← h.1]
      exact ⟨(plainAt_plain d).2.2.2.1, (plainAt_plain d).2.2.2.2⟩
  · exact .inl rfl
end Go.Proofs.YtoefegbbnaonoaaGreatDoor
