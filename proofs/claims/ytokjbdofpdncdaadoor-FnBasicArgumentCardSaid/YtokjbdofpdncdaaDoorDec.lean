/- The reader's decimal number: the walk. -/
import Derived.Test.YtokjbdofpdncdaaDoorB62
import Derived.Test.YtokjbdofpdncdaaDoorDecP
namespace Go.Proofs.YtokjbdofpdncdaaDoor
open Go.RowKit
set_option linter.unusedVariables false
attribute [local go_sem] bs_size bs_get0

theorem isDigit_yes {c : UInt8} (h : isDig c = true) (w : World) :
    Calls Tryd.prog 61 #[.int .u8 (c.toNat : Int)] w fun e w' => e = .returned (.bool true) ∧ w = w' := by
  have h' : 48 ≤ c.toNat ∧ c.toNat ≤ 57 := of_decide_eq_true h
  clear h
  have t1 : 48 ≤ (c.toNat : Int) := by omega
  have t2 : (c.toNat : Int) ≤ 57 := by omega
  go_enter Tryd.func61, Tryd.ntmps61
  go_wp2
  go_ret
  exact ⟨rfl, rfl⟩
theorem isDigit_no {c : UInt8} (h : isDig c = false) (w : World) :
    Calls Tryd.prog 61 #[.int .u8 (c.toNat : Int)] w fun e w' => e = .returned (.bool false) ∧ w = w' := by
  have h' : ¬ (48 ≤ c.toNat ∧ c.toNat ≤ 57) := of_decide_eq_false h
  clear h
  by_cases h1 : 48 ≤ c.toNat
  · have t1 : 48 ≤ (c.toNat : Int) := by omega
    have t2 : ¬ (c.toNat : Int) ≤ 57 := by omega
    go_enter Tryd.func61, Tryd.ntmps61
    go_wp2
    go_ret
    exact ⟨rfl, rfl⟩
  · have t1 : ¬ 48 ≤ (c.toNat : Int) := by omega
    go_enter Tryd.func61, Tryd.ntmps61
    go_wp2
    go_ret
    exact ⟨rfl, rfl⟩

set_option maxHeartbeats 1000000 in
theorem decimal_any {w : World} {b : Nat} {st : St} (h : Rst w b st) (hl : st.str.length ≤ 9223372036854775807) :
    Calls Tryd.prog 147 #[.pointer (some ⟨b, 0, none⟩)] w (ReadInt b w st (dec st.str)) := by
  obtain ⟨orig, str, off, out, skip, life, noGen, max⟩ := st
  simp only at hl
  have c1 := h.str
  have f1 := h.free 1
  simp only at c1
  cases str with
  | nil =>
    have H1 := Lib.hid h
    clear h
    go_enter Tryd.func147, Tryd.ntmps147
    go_wp2_with (go_at_call 80; refine (fail_any H1.out _).mono ?_; rintro e w2 ⟨⟨_, _, rfl⟩, rfl⟩)
    exact ⟨rfl, ⟨_, _, rfl⟩, Keep.refl _ _⟩
  | cons c0 l0 =>
    have H1 := Lib.hid h
    clear h
    show Calls _ _ _ _ (ReadInt b w _ (decgo 0 (c0 :: l0)))
    obtain ⟨res, hres⟩ : ∃ r, decgo 0 (c0 :: l0) = r := ⟨_, rfl⟩
    rw [hres]
    replace hres := Lib.hid hres
    have hlen := Lib.hid (rfl : (c0 :: l0).length = (c0 :: l0).length)
    obtain ⟨n0, hn0⟩ : ∃ n : Nat, (c0 :: l0).length = n := ⟨_, rfl⟩
    replace hn0 := Lib.hid hn0
    have hz : ((l0.length : Int) + 1 == 0) = false := by simp; omega
    go_enter Tryd.func147, Tryd.ntmps147
    go_wp2_with fail
    go_loopg [3] n0 (fun g v wr => ∃ (x : Int) (m : List UInt8) (o : Int), v = .int .i64 x ∧ 0 ≤ x ∧ x ≤ 2147483647 ∧ Rst wr b ⟨orig, m, o, out, skip, life, noGen, max⟩ ∧ Keep b w wr ∧ Hid (decgo x m = res) ∧ Hid (m.length = g) ∧ m.length ≤ 9223372036854775807)
    case atStart => exact ⟨_, _, _, rfl, by omega, by omega, H1.out, Keep.refl _ _, hres, hn0, hl⟩
    case round =>
      clear c1 f1 hres hl H1 hn0 hlen hz
      obtain ⟨x, m, o, rfl, hx0, hx1, h1, hb1, hr1, hg1, hl1⟩ := hrel
      have c1 := h1.str
      simp only at c1
      have H1 := Lib.hid h1
      cases m with
      | nil =>
        clear h1
        go_wp2_with fail
        go_ret
        have e := hr1.out
        rw [show decgo x [] = some (x, []) from rfl] at e
        subst e
        exact ⟨rfl, ⟨_, H1.out⟩, hb1⟩
      | cons d m =>
        have f1 := h1.free 1
        clear h1
        cases hd : isDig d with
        | false =>
          replace hd := Lib.hid hd
          go_wp2_with (go_at_call 61; refine (isDigit_no hd.out _).mono ?_; rintro e w2 ⟨rfl, rfl⟩)
          go_ret
          have e := hr1.out
          rw [decgo_off hd.out] at e
          subst e
          exact ⟨rfl, ⟨_, H1.out⟩, hb1⟩
        | true =>
          have hd' : 48 ≤ d.toNat ∧ d.toNat ≤ 57 := of_decide_eq_true hd
          replace hd := Lib.hid hd
          have t1 : 48 ≤ (d.toNat : Int) := by omega
          have t2 : (d.toNat : Int) ≤ 57 := by omega
          clear hd'
          by_cases hov : 214748364 - ((d.toNat : Int) - 48) ≤ x
          · go_wp2_with (first | (go_at_call 61; refine (isDigit_yes hd.out _).mono ?_; rintro e w2 ⟨rfl, rfl⟩) | (go_at_call 80; refine (fail_any H1.out _).mono ?_; rintro e w2 ⟨⟨_, _, rfl⟩, rfl⟩))
            have e := hr1.out
            rw [decgo_over hd.out hov] at e
            subst e
            exact ⟨rfl, ⟨_, _, rfl⟩, hb1⟩
          · go_wp2_with (first | (go_at_call 61; refine (isDigit_yes hd.out _).mono ?_; rintro e w2 ⟨rfl, rfl⟩) | (go_at_call 81; refine (advance_one H1.out rfl hl1).mono ?_; rintro e w2 ⟨rfl, ⟨o2, h2⟩, hb2⟩))
            have hr2 := hr1.out
            rw [decgo_on hd.out (by omega)] at hr2
            have hg2 := hg1.out
            simp only [List.length_cons] at hl1 hg2
            go_roundg m.length
            case measure => omega
            case rel => exact ⟨_, m, o2, rfl, by omega, by omega, h2, hb1.trans hb2, hr2, Lib.hid rfl, by omega⟩
end Go.Proofs.YtokjbdofpdncdaaDoor
