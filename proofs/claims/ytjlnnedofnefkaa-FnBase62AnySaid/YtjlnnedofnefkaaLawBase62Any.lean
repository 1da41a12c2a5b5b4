/- FnBase62Any: the walk. -/
import Derived.Test.YtjlnnedofnefkaaLawBase62Read
import Derived.Test.YtjlnnedofnefkaaDoor62
namespace Go.Proofs.Ytjlnnedofnefkaa
open Go.RowKit
set_option linter.unusedVariables false
set_option maxRecDepth 100000
attribute [local go_sem] bs_size bs_toList

theorem base62Any_walk (w : World) (A : Option Addr) (n c : Nat) (l : List UInt8) (h : Bytes w A n l) (hn : n ≤ maxLen) :
    Calls Try.prog 4 #[.slice A n c] w fun e w' => e = .returned (.bool true) ∧ Below w.heap.size w w' := by
  have hcv := fun m => Bytes.convert (w := w.drewN m) h c (P := Try.prog) Try.underlying22 Try.underlying5 Try.underlying9
  have hcv0 := h.convert c (P := Try.prog) Try.underlying22 Try.underlying5 Try.underlying9
  obtain ⟨rfl, h⟩ := h
  clear h
  unfold maxLen at hn
  by_cases hz : 2147483647 < l.length
  · clear hcv
    go_enter Try.func4, Try.ntmps4
    go_wp2_with fail
    go_ret
    exact ⟨rfl, Below.refl _ _⟩
  · have hz' : l.length ≤ 2147483647 := by omega
    clear hz
    have HR := Lib.hid (fun W => door62_any (l := l) (by omega) W)
    have hs1 := door62_first l
    obtain ⟨r, hr⟩ : ∃ r, door62 true 0 l = r := ⟨_, rfl⟩
    obtain ⟨v, t, s⟩ := r
    rw [hr] at HR hs1
    clear hr
    by_cases h0 : s = 0
    · subst h0
      have HD := Lib.hid (fun W => doorNumber_yes (s := bs l) (n := v) (l := t) (by rw [bs_data]; exact hs1.1 v t rfl) (by rw [bs_size]; omega) W)
      clear hs1
      go_enter Try.func4, Try.ntmps4
      go_wp2_with (first | (go_at_call 11; refine (HR.out _).mono ?_; rintro e w2 ⟨rfl, m, rfl⟩) | (go_at_call 12; refine (HD.out _).mono ?_; rintro e w3 ⟨rfl, hb3⟩))
      go_ret
      exact ⟨rfl, (below_drewN (Below.refl _ _) m).trans hb3⟩
    · by_cases h1 : s = 1
      · subst h1
        clear h0
        have HI := Lib.hid (fun W => base62_impl (r := none) (s := bs l) (by rw [bs_data]; exact hs1.2 v t rfl) (by rw [bs_size]; omega) W)
        have HD := Lib.hid (fun W => doorNumber_yes (s := bs [48, 95]) (n := 1) (l := []) (by rw [bs_data]; decide +kernel) (by decide) W)
        clear hs1
        go_enter Try.func4, Try.ntmps4
        go_wp2_with (first | (go_at_call 11; refine (HR.out _).mono ?_; rintro e w2 ⟨rfl, m, rfl⟩) | (go_at_call 12; refine (HD.out _).mono ?_; rintro e w4 ⟨rfl, hb4⟩) | (go_at_call 13; refine (HI.out _).mono ?_; rintro e w3 ⟨rfl, hb3⟩))
        go_ret
        exact ⟨rfl, ((below_drewN (Below.refl _ _) m).trans hb3).trans (hb4.mono hb3.size)⟩
      · have e0 : (s == 0) = false := by simpa using h0
        have e1 : (s == 1) = false := by simpa using h1
        have HD := Lib.hid (fun W => doorNumber_yes (s := bs [95]) (n := 0) (l := []) (by rw [bs_data]; decide +kernel) (by decide) W)
        clear hs1 h0 h1
        go_enter Try.func4, Try.ntmps4
        go_wp2_with (first | (go_at_call 11; refine (HR.out _).mono ?_; rintro e w2 ⟨rfl, m, rfl⟩) | (go_at_call 12; refine (HD.out _).mono ?_; rintro e w4 ⟨rfl, hb4⟩))
        go_ret
        exact ⟨rfl, (below_drewN (Below.refl _ _) m).trans hb4⟩
end Go.Proofs.Ytjlnnedofnefkaa
