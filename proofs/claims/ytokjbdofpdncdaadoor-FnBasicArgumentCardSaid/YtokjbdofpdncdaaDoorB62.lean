/- The reader's number in base 62: the walk. -/
import Derived.Test.YtokjbdofpdncdaaDoorAdv
import Derived.Test.YtokjbdofpdncdaaDoorNum
import Derived.Deep.LoopGhost
namespace Go.Proofs.YtokjbdofpdncdaaDoor
open Go.RowKit
set_option linter.unusedVariables false
attribute [local go_sem] bs_size bs_get0

/-- A number is read, or it fails. -/
def ReadInt (b : Nat) (w : World) (st : St) (r : Option (Int × List UInt8)) (e : Ending) (w' : World) : Prop :=
  match r with
  | some (n, l) => Done b w (.int .i64 n) { st with str := l } e w'
  | none => Fell b w e w'

theorem b62go_nil (v : Int) : b62go v [] = none := rfl
theorem b62go_end (v : Int) (l : List UInt8) : b62go v (95 :: l) = some (wrap64 (v + 1), l) := rfl
theorem b62go_dig {c : UInt8} {d : Int} (v : Int) (l : List UInt8) (h : c ≠ 95) (hd : dig62 c = some d) : b62go v (c :: l) = b62go (wrap64 (wrap64 (v * 62) + d)) l := by
  simp [b62go, h, hd]
theorem b62go_bad {c : UInt8} (v : Int) (l : List UInt8) (h : c ≠ 95) (hd : dig62 c = none) : b62go v (c :: l) = none := by
  simp [b62go, h, hd]

set_option maxHeartbeats 1000000 in
theorem base62_any {w : World} {b : Nat} {st : St} (h : Rst w b st) (hl : st.str.length ≤ 9223372036854775807) :
    Calls Tryd.prog 115 #[.pointer (some ⟨b, 0, none⟩)] w (ReadInt b w st (b62 st.str)) := by
  obtain ⟨orig, str, off, out, skip, life, noGen, max⟩ := st
  simp only at hl
  have c1 := h.str
  have f1 := h.free 1
  simp only at c1
  by_cases hu : ∃ l, str = 95 :: l
  · obtain ⟨l, rfl⟩ := hu
    have cb : ((95 : UInt8).toNat : Int) = 95 := rfl
    go_enter Tryd.func115, Tryd.ntmps115
    go_wp2_with (go_at_call 81; refine (advance_one h rfl hl).mono ?_; rintro e w1 ⟨rfl, ⟨o1, h1⟩, hb1⟩)
    go_ret
    exact ⟨rfl, ⟨_, h1⟩, hb1⟩
  · have hr : Hid (b62go 0 str = b62 str) := by
      cases str with
      | nil => rfl
      | cons c l =>
        have hc : c ≠ 95 := fun e => hu ⟨l, by rw [e]⟩
        show b62go 0 (c :: l) = b62 (c :: l)
        simp [b62, hc]
    have hc0 : str = [] ∨ ∃ c l, str = c :: l ∧ c ≠ 95 := by
      cases str with
      | nil => exact .inl rfl
      | cons c l => exact .inr ⟨c, l, rfl, fun e => hu ⟨l, by rw [e]⟩⟩
    clear hu
    have hH := Lib.hid h
    obtain ⟨n0, hn0⟩ : ∃ n : Nat, str.length = n := ⟨_, rfl⟩
    replace hn0 := Lib.hid hn0
    generalize hres : b62 str = res at hr ⊢
    clear hres
    rcases hc0 with rfl | ⟨c, l, rfl, hc⟩
    all_goals
      try have hcn : c.toNat ≠ 95 := fun e => hc (UInt8.toNat_inj.1 e)
      try have hcb : ((c.toNat : Int) == 95) = false := by simp; omega
      try clear hc
      try clear hcn
      clear h
      go_enter Tryd.func115, Tryd.ntmps115
      go_wp2
      go_loopg [3] n0 (fun g v wr => ∃ (x : Int) (m : List UInt8) (o : Int), v = .int .i64 x ∧ Rst wr b ⟨orig, m, o, out, skip, life, noGen, max⟩ ∧ Keep b w wr ∧ Hid (b62go x m = res) ∧ Hid (m.length = g) ∧ m.length ≤ 9223372036854775807)
      case atStart => exact ⟨_, _, _, rfl, hH.out, Keep.refl _ _, hr, hn0, hl⟩
      case round =>
        clear c1 f1 hr hl hH hn0
        obtain ⟨x, m, o, rfl, h1, hb1, hr1, hg1, hl1⟩ := hrel
        have c1 := h1.str
        simp only at c1
        cases m with
        | nil =>
          have H1 := Lib.hid h1
          clear h1
          go_wp2_with (go_at_call 80; refine (fail_any H1.out _).mono ?_; rintro e w2 ⟨⟨_, _, rfl⟩, rfl⟩)
          have e := hr1.out
          rw [b62go_nil] at e
          subst e
          exact ⟨rfl, ⟨_, _, rfl⟩, hb1⟩
        | cons d m =>
          have f1 := h1.free 1
          have H1 := Lib.hid h1
          clear h1
          by_cases h95 : d = 95
          · subst h95
            have cb : ((95 : UInt8).toNat : Int) = 95 := rfl
            go_wp2_with (go_at_call 81; refine (advance_one H1.out rfl hl1).mono ?_; rintro e w2 ⟨rfl, ⟨o2, h2⟩, hb2⟩)
            go_ret
            have e := hr1.out
            rw [b62go_end] at e
            subst e
            exact ⟨rfl, ⟨_, h2⟩, hb1.trans hb2⟩
          · have g0 : ((d.toNat : Int) == 95) = false := by
              have : d.toNat ≠ 95 := fun e => h95 (UInt8.toNat_inj.1 e)
              simp; omega
            have h95' := Lib.hid h95
            clear h95
            by_cases g1 : 48 ≤ d.toNat ∧ d.toNat ≤ 57
            · have t1 : 48 ≤ (d.toNat : Int) := by omega
              have t2 : (d.toNat : Int) ≤ 57 := by omega
              go_wp2_with (go_at_call 81; refine (advance_one H1.out rfl hl1).mono ?_; rintro e w2 ⟨rfl, ⟨o2, h2⟩, hb2⟩)
              have hr2 := hr1.out
              rw [b62go_dig x m h95'.out (show dig62 d = some ((d.toNat : Int) - 48) from if_pos g1)] at hr2
              have hg2 := hg1.out
              simp only [List.length_cons] at hl1 hg2
              go_roundg m.length
              case measure => omega
              case rel => exact ⟨_, m, o2, rfl, h2, hb1.trans hb2, hr2, Lib.hid rfl, by omega⟩
            · by_cases g2 : 97 ≤ d.toNat ∧ d.toNat ≤ 122
              · have t0 : ¬ (d.toNat : Int) ≤ 57 := by omega
                have t1 : 97 ≤ (d.toNat : Int) := by omega
                have t2 : (d.toNat : Int) ≤ 122 := by omega
                have t3 : 48 ≤ (d.toNat : Int) := by omega
                go_wp2_with (go_at_call 81; refine (advance_one H1.out rfl hl1).mono ?_; rintro e w2 ⟨rfl, ⟨o2, h2⟩, hb2⟩)
                have hr2 := hr1.out
                rw [b62go_dig x m h95'.out (show dig62 d = some ((d.toNat : Int) - 97 + 10) from by unfold dig62; rw [if_neg g1, if_pos g2])] at hr2
                have hg2 := hg1.out
                simp only [List.length_cons] at hl1 hg2
                go_roundg m.length
                case measure => omega
                case rel => exact ⟨_, m, o2, rfl, h2, hb1.trans hb2, hr2, Lib.hid rfl, by omega⟩
              · by_cases g3 : 65 ≤ d.toNat ∧ d.toNat ≤ 90
                · have t0 : ¬ (d.toNat : Int) ≤ 57 := by omega
                  have t1 : 65 ≤ (d.toNat : Int) := by omega
                  have t2 : (d.toNat : Int) ≤ 90 := by omega
                  have t3 : 48 ≤ (d.toNat : Int) := by omega
                  have t4 : ¬ 97 ≤ (d.toNat : Int) := by omega
                  go_wp2_with (go_at_call 81; refine (advance_one H1.out rfl hl1).mono ?_; rintro e w2 ⟨rfl, ⟨o2, h2⟩, hb2⟩)
                  have hr2 := hr1.out
                  rw [b62go_dig x m h95'.out (show dig62 d = some ((d.toNat : Int) - 65 + 36) from by unfold dig62; rw [if_neg g1, if_neg g2, if_pos g3])] at hr2
                  have hg2 := hg1.out
                  simp only [List.length_cons] at hl1 hg2
                  go_roundg m.length
                  case measure => omega
                  case rel => exact ⟨_, m, o2, rfl, h2, hb1.trans hb2, hr2, Lib.hid rfl, by omega⟩
                · go_wp2_with (first | (go_at_call 81; refine (advance_one H1.out rfl hl1).mono ?_; rintro e w2 ⟨rfl, ⟨o2, h2⟩, hb2⟩) | (go_at_call 80; refine (fail_any h2 _).mono ?_; rintro e w3 ⟨⟨_, _, rfl⟩, rfl⟩))
                  all_goals
                    have e := hr1.out
                    rw [b62go_bad x m h95'.out (show dig62 d = none from by unfold dig62; rw [if_neg g1, if_neg g2, if_neg g3])] at e
                    subst e
                    exact ⟨rfl, ⟨_, _, rfl⟩, hb1.trans hb2⟩
end Go.Proofs.YtokjbdofpdncdaaDoor
