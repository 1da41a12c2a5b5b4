/- FnBasicText and FnBasicWidths: the walks. -/
import Derived.Test.YtokjbdofpdncdaaDoorGateBasic
namespace Go.Proofs.YtokjbdofpdncdaaDoor
open Go.RowKit
set_option linter.unusedVariables false
set_option maxRecDepth 100000
attribute [local go_sem] bs_size bs_toList

theorem letters_text {w : World} {c : UInt8} (h : c ∈ letters) :
    Calls Tryd.prog 16 #[.int .u8 (c.toNat : Int)] w fun e w' => e = .returned (.string (bs (basicText c))) ∧ w' = w := by
  simp only [letters, List.mem_cons, List.mem_nil_iff, or_false] at h
  rcases h with rfl | rfl | rfl | rfl | rfl | rfl | rfl | rfl | rfl | rfl | rfl | rfl | rfl | rfl | rfl | rfl | rfl | rfl | rfl | rfl | rfl
  all_goals
    go_enter Tryd.func16, Tryd.ntmps16
    go_wp2
    refine bodyPost_ret (by simp [results, Tryd.results16, go_sem]; rfl) rfl ⟨?_, rfl⟩
    kernel_rfl
theorem noletter_text {w : World} {c : UInt8} (h : c ∉ letters) :
    Calls Tryd.prog 16 #[.int .u8 (c.toNat : Int)] w fun e w' => e = .returned (.string (bs (basicText c))) ∧ w' = w := by
  have ht := basicText_no c h
  rw [ht]
  clear ht
  have hn := forall_u8 (p := fun c => letters.contains c || [97, 98, 99, 100, 101, 102, 104, 105, 106, 108, 109, 110, 111, 112, 115, 116, 117, 118, 120, 121, 122].all fun k : Int => !((c.toNat : Int) == k)) (by kernel_rfl) c
  rw [Bool.or_eq_true] at hn
  replace hn := hn.resolve_left (by simpa using h)
  rw [List.all_eq_true] at hn
  simp only [List.mem_cons, List.mem_nil_iff, or_false, forall_eq_or_imp, forall_eq, Bool.not_eq_true'] at hn
  obtain ⟨h1, h2, h3, h4, h5, h6, h7, h8, h9, h10, h11, h12, h13, h14, h15, h16, h17, h18, h19, h20, h21⟩ := hn
  clear h
  go_enter Tryd.func16, Tryd.ntmps16
  go_wp2
  go_ret
  exact ⟨rfl, rfl⟩
theorem text_any (w : World) (c : UInt8) :
    Calls Tryd.prog 16 #[.int .u8 (c.toNat : Int)] w fun e w' => e = .returned (.string (bs (basicText c))) ∧ w' = w := by
  by_cases h : c ∈ letters
  · exact letters_text h
  · exact noletter_text h

end Go.Proofs.YtokjbdofpdncdaaDoor
