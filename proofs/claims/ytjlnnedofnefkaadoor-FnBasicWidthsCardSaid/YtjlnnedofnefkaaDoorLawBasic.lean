/- FnBasicText and FnBasicWidths: the walks. -/
import Derived.Test.YtjlnnedofnefkaaDoorGateBasic
namespace Go.Proofs.YtjlnnedofnefkaaDoor
open Go.RowKit
set_option linter.unusedVariables false
set_option maxRecDepth 100000
attribute [local go_sem] bs_size bs_toList

theorem letters_text {w : World} {c : UInt8} (h : c ∈ letters) :
    Calls Tryd.prog 8 #[.int .u8 (c.toNat : Int)] w fun e w' => e = .returned (.string (bs (basicText c))) ∧ w' = w := by
  simp only [letters, List.mem_cons, List.mem_nil_iff, or_false] at h
  rcases h with rfl | rfl | rfl | rfl | rfl | rfl | rfl | rfl | rfl | rfl | rfl | rfl | rfl | rfl | rfl | rfl | rfl | rfl | rfl | rfl | rfl
  all_goals
    go_enter Tryd.func8, Tryd.ntmps8
    go_wp2
    refine bodyPost_ret (by simp [results, Tryd.results8, go_sem]; rfl) rfl ⟨?_, rfl⟩
    kernel_rfl
theorem noletter_text {w : World} {c : UInt8} (h : c ∉ letters) :
    Calls Tryd.prog 8 #[.int .u8 (c.toNat : Int)] w fun e w' => e = .returned (.string (bs (basicText c))) ∧ w' = w := by
  have ht := basicText_no c h
  rw [ht]
  clear ht
  have hn := forall_u8 (p := fun c => letters.contains c || [97, 98, 99, 100, 101, 102, 104, 105, 106, 108, 109, 110, 111, 112, 115, 116, 117, 118, 120, 121, 122].all fun k : Int => !((c.toNat : Int) == k)) (by kernel_rfl) c
  rw [Bool.or_eq_true] at hn
  replace hn := hn.resolve_left (by simpa using h)
  rw [List.all_eq_true] at hn
  simp only [List.mem_cons, List.mem_nil_iff, or_false, forall_eq_or_imp, forall_eq, Bool.not_eq_true'] at hn
  obtain ⟨h1, h2, h3, h4, h5, h6, h7, h8, h9, h10, h11, h12, h13, h14, h15, h16, h17, h18, h19, h20, h21⟩ := hn
  clear h
  go_enter Tryd.func8, Tryd.ntmps8
  go_wp2
  go_ret
  exact ⟨rfl, rfl⟩
theorem text_any (w : World) (c : UInt8) :
    Calls Tryd.prog 8 #[.int .u8 (c.toNat : Int)] w fun e w' => e = .returned (.string (bs (basicText c))) ∧ w' = w := by
  by_cases h : c ∈ letters
  · exact letters_text h
  · exact noletter_text h

theorem basicText_walk (w : World) (hB : Basics w w.heap.size) (c : UInt8) (l : List UInt8) (hl : l.length ≤ maxLen) :
    Calls Tryd.prog 3 #[.int .u8 (c.toNat : Int), .string (bs l)] w fun e w' => e = .returned (.bool true) ∧ Below w.heap.size w w' := by
  by_cases hz : 2147483647 < l.length
  · go_enter Tryd.func3, Tryd.ntmps3
    go_wp2_with fail
    go_ret
    exact ⟨rfl, Below.refl _ _⟩
  · have hz' : decide ((2147483647:Int) < (l.length : Int)) = false := decide_eq_false (by omega)
    have HT := Lib.hid (fun W : World => text_any W c)
    by_cases ht : basicText c = []
    · have e1 : (basicText c == []) = true := by simp [ht]
      clear hz
      go_enter Tryd.func3, Tryd.ntmps3
      go_wp2_with (go_at_call 8; refine (HT.out _).mono ?_; rintro e w2 ⟨rfl, rfl⟩)
      go_ret
      exact ⟨rfl, Below.refl _ _⟩
    · have HI := Lib.hid (basicIs_yes (w := w) hB (l := l) (by omega) ht)
      have e1 : (basicText c == []) = false := by simp [ht]
      clear hz hB ht
      go_enter Tryd.func3, Tryd.ntmps3
      go_wp2_with (first | (go_at_call 8; refine (HT.out _).mono ?_; rintro e w2 ⟨rfl, rfl⟩) | (go_at_call 9; refine (HI.out).mono ?_; rintro e w2 ⟨rfl, hb2⟩))
      go_ret
      exact ⟨rfl, hb2⟩
end Go.Proofs.YtjlnnedofnefkaaDoor
