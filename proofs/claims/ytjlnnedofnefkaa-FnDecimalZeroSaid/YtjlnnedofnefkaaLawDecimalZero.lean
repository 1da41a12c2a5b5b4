/- FnDecimalZero: the walk. -/
import Derived.Test.YtjlnnedofnefkaaDoorLaw
namespace Go.Proofs.Ytjlnnedofnefkaa
open Go.RowKit
set_option linter.unusedVariables false
set_option maxRecDepth 100000
attribute [local go_sem] bs_size bs_toList

theorem dec_zero {l : List UInt8} (h : ∀ c t, l = c :: t → isDig c = false) : dec (48 :: l) = some (0, l) := by
  have e : decgo 0 (48 :: l) = decgo 0 l := by rw [decgo_on (by decide) (by decide)]; rfl
  show decgo 0 (48 :: l) = _
  rw [e]
  cases l with
  | nil => rfl
  | cons c t => exact decgo_off (h c t rfl)

theorem decimalZero_walk (w : World) (A : Option Addr) (n c : Nat) (l : List UInt8) (h : Bytes w A n l) (hn : n ≤ maxLen) :
    Calls Try.prog 3 #[.slice A n c] w fun e w' => e = .returned (.bool true) ∧ Below w.heap.size w w' := by
  have hcv := h.convert c (P := Try.prog) Try.underlying22 Try.underlying5 Try.underlying9
  obtain ⟨rfl, h⟩ := h
  unfold maxLen at hn
  by_cases hz : 2147483647 < l.length
  · go_enter Try.func3, Try.ntmps3
    go_wp2
    go_ret
    exact ⟨rfl, Below.refl _ _⟩
  · have hz' : l.length ≤ 2147483647 := by omega
    clear hz
    cases l with
    | nil =>
      simp only [List.length_nil] at hcv
      have hd := fun W => doorDecimal_yes (s := bs [48] ++ bs []) (n := 0) (l := []) (by rw [bs_append, bs_data]; rfl) (by rw [bs_append, bs_size]; decide) W
      have HD := Lib.hid hd
      clear hd
      go_enter Try.func3, Try.ntmps3
      go_wp2_with (go_at_call 10; refine (HD.out _).mono ?_; rintro e w2 ⟨rfl, hb2⟩)
      go_ret
      exact ⟨rfl, hb2⟩
    | cons d t =>
      simp only [List.length_cons] at hcv hz' hn
      have hzb : decide ((2147483647 : Int) < (t.length : Int) + 1) = false := decide_eq_false (by omega)
      have HZ := Lib.hid hz'
      have HN := Lib.hid hn
      rcases h with h | ⟨b, off, rfl, hlt, hc⟩
      · cases h
      have hc0 := hc 0 (by simp)
      simp only [Nat.add_zero, List.getElem_cons_zero] at hc0
      clear hc
      cases hd0 : isDig d with
      | true =>
        have hd' : 48 ≤ d.toNat ∧ d.toNat ≤ 57 := of_decide_eq_true hd0
        have t1 : 48 ≤ (d.toNat : Int) := by omega
        have t2 : (d.toNat : Int) ≤ 57 := by omega
        have hd := fun W => doorDecimal_yes (s := bs (48 :: 95 :: d :: t)) (n := 0) (l := 95 :: d :: t) (by rw [bs_data]; exact dec_zero (by rintro c t h; cases h; rfl)) (by rw [bs_size]; simp; omega) W
        have ha1 : ∀ W, (Op.stringOp .add ⟨#[95]⟩ (bs (d :: t))).run Try.prog W = .ok (.string (bs (95 :: d :: t))) W := add_bs [95] (d :: t) (by simp; omega)
        have ha2 : ∀ W, (Op.stringOp .add ⟨#[48]⟩ (bs (95 :: d :: t))).run Try.prog W = .ok (.string (bs (48 :: 95 :: d :: t))) W := add_bs [48] (95 :: d :: t) (by simp; omega)
        have HD := Lib.hid hd
        clear hd hd' hd0 hz' hn
        go_enter Try.func3, Try.ntmps3
        go_wp2_with (go_at_call 10; refine (HD.out _).mono ?_; rintro e w2 ⟨rfl, hb2⟩)
        go_ret
        exact ⟨rfl, hb2⟩
      | false =>
        have hd' : ¬ (48 ≤ d.toNat ∧ d.toNat ≤ 57) := of_decide_eq_false hd0
        have hd := fun W => doorDecimal_yes (s := bs (48 :: d :: t)) (n := 0) (l := d :: t) (by rw [bs_data]; exact dec_zero (by rintro c t h; cases h; exact hd0)) (by rw [bs_size]; simp; omega) W
        have ha2 : ∀ W, (Op.stringOp .add ⟨#[48]⟩ (bs (d :: t))).run Try.prog W = .ok (.string (bs (48 :: d :: t))) W := add_bs [48] (d :: t) (by simp; omega)
        have HD := Lib.hid hd
        clear hd hd0 hz' hn
        by_cases t1 : 48 ≤ d.toNat
        · have t1' : 48 ≤ (d.toNat : Int) := by omega
          have t2 : ¬ (d.toNat : Int) ≤ 57 := by omega
          clear hd' t1
          go_enter Try.func3, Try.ntmps3
          go_wp2_with (go_at_call 10; refine (HD.out _).mono ?_; rintro e w2 ⟨rfl, hb2⟩)
          go_ret
          exact ⟨rfl, hb2⟩
        · have t1' : ¬ 48 ≤ (d.toNat : Int) := by omega
          clear hd' t1
          go_enter Try.func3, Try.ntmps3
          go_wp2_with (go_at_call 10; refine (HD.out _).mono ?_; rintro e w2 ⟨rfl, hb2⟩)
          go_ret
          exact ⟨rfl, hb2⟩
end Go.Proofs.Ytjlnnedofnefkaa
