/- Where the first dot of a text stands. -/
import Derived.Test.YtokjbdofpdncdaaDoorBase
import Derived.Test.YtokjbdofpdncdaaDoorRows
namespace Go.Proofs.YtokjbdofpdncdaaDoor
open Go.RowKit
set_option linter.unusedVariables false
attribute [local go_sem] bs_size bs_toList

/-- k is where the first dot stands, or the text's end. -/
def DotAt (l : List UInt8) (k : Nat) : Prop := k ≤ l.length ∧ (∀ j (h : j < l.length), j < k → l[j] ≠ 46) ∧ ∀ (h : k < l.length), l[k] = 46
theorem dotAt_none {l : List UInt8} (h : ∀ c ∈ l, c ≠ 46) : DotAt l l.length :=
  ⟨Nat.le_refl _, fun j hj _ => h _ (List.getElem_mem _), fun hk => absurd hk (by omega)⟩
theorem dotAt_some {l t : List UInt8} (h : ∀ c ∈ l, c ≠ 46) : DotAt (l ++ 46 :: t) l.length :=
  ⟨by simp, fun j hj hk => by rw [List.getElem_append_left hk]; exact h _ (List.getElem_mem _), fun hk => by simp⟩
def idxOf (l : List UInt8) (k : Nat) : Int := if k = l.length then -1 else k

theorem bs_one (l : List UInt8) (k : Nat) (h : k < l.length) : (bs l).extract k (k + 1) = bs [l[k]] := by
  rw [bs_extract, show k + 1 - k = 1 by omega]
  congr 1
  rw [List.take_one, List.head?_drop, List.getElem?_eq_getElem h]
  rfl

theorem index_any {l : List UInt8} {k : Nat} (h : DotAt l k) (hl : l.length ≤ 1000000000000) (w : World) :
    Calls Tryd.prog 105 #[.string (bs l), .string ⟨#[46]⟩] w fun e w' => e = .returned (.int .i64 (idxOf l k)) ∧ w = w' := by
  obtain ⟨h1, h2, h3⟩ := h
  have H2 := Lib.hid h2
  have H3 := Lib.hid h3
  clear h2 h3
  go_enter Tryd.func105, Tryd.ntmps105
  go_wp2
  go_loop [5] (fun i => ∃ j : Nat, j ≤ k ∧ i = .int .i64 j) (fun i => ((k : Int) - intOf i).toNat)
  case atStart => exact ⟨0, by omega, rfl⟩
  case round =>
    obtain ⟨j, hj, rfl⟩ := hrel
    by_cases hjk : j < k
    · have hjl : j < l.length := by omega
      have hs := bs_one l j hjl
      have hne : (([l[j]] : List UInt8) == [46]) = false := by simpa using H2.out j hjl hjk
      obtain ⟨d, hd⟩ : ∃ d, l[j] = d := ⟨_, rfl⟩
      rw [hd] at hs hne
      have t1 : (j : Int) + 1 ≤ (l.length : Int) := by omega
      clear hd
      go_wp2
      go_round
      case rel => exact ⟨j + 1, by omega, by go_num⟩
      case measure => simp [intOf]; omega
    · obtain rfl : j = k := by omega
      by_cases hkl : j = l.length
      · have t1 : ¬ (j : Int) + 1 ≤ (l.length : Int) := by omega
        have e := Lib.hid (show idxOf l j = -1 from if_pos hkl)
        clear hkl
        go_wp2
        go_ret
        exact ⟨by rw [e.out]; rfl, rfl⟩
      · have hjl : j < l.length := by omega
        have e := Lib.hid (show idxOf l j = (j : Int) from if_neg hkl)
        have hs := bs_one l j hjl
        rw [H3.out hjl] at hs
        have he : (([46] : List UInt8) == [46]) = true := rfl
        have t1 : (j : Int) + 1 ≤ (l.length : Int) := by omega
        clear hkl
        go_wp2
        go_ret
        exact ⟨by rw [e.out]; rfl, rfl⟩
end Go.Proofs.YtokjbdofpdncdaaDoor
