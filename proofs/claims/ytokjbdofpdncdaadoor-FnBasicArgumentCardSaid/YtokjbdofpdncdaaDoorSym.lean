/- The reader's symbolName: the walk. -/
import Derived.Test.YtokjbdofpdncdaaDoorPath3
namespace Go.Proofs.YtokjbdofpdncdaaDoor
open Go.RowKit Go.Lib
set_option linter.unusedVariables false
set_option maxRecDepth 100000
attribute [local go_sem] bs_size bs_get0

/-- A name behind its prefix: a path, and perhaps one more, which is not told. -/
def rsym (f : Nat) (st : St) : Option (Option St) :=
  match st.str with
  | [] => some none
  | c :: _ => if isDig c then some none else
    match rpath f st with
    | none => none
    | some none => some none
    | some (some s1) => if s1.str = [] then some (some s1) else rpath f { s1 with skip := true }

section
variable {w : World} {b : Nat} {st : St}
theorem sym_nil (h : RstO w b st) (hs : st.str = []) :
    Calls Tryd.prog 106 #[.pointer (some ⟨b, 0, none⟩)] w (Fell b w) := by
  have c1 := h.str
  rw [hs] at c1
  have HF := Lib.hid (fun m => fail_o h m)
  clear h hs
  go_enter Tryd.func106, Tryd.ntmps106
  go_wp2_with (go_at_call 80; refine (HF.out _).mono ?_; rintro e w1 ⟨⟨_, _, rfl⟩, rfl⟩)
  exact ⟨rfl, ⟨_, _, rfl⟩, Keep.refl _ _⟩
theorem sym_digit {c : UInt8} {l : List UInt8} (h : RstO w b st) (hs : st.str = c :: l) (hd : isDig c = true) :
    Calls Tryd.prog 106 #[.pointer (some ⟨b, 0, none⟩)] w (Fell b w) := by
  have c1 := h.str
  rw [hs] at c1
  have hp0 : 0 < (bs (c :: l)).size := by rw [bs_size]; simp
  have hlen : ¬ ((l.length : Int) + 1 < 1) := by omega
  have HF := Lib.hid (fun m => fail_o h m)
  have HD := Lib.hid (isDigit_yes hd)
  clear h hs hd
  go_enter Tryd.func106, Tryd.ntmps106
  go_wp2_with (first | (go_at_call 61; refine (HD.out _).mono ?_; rintro e w1 ⟨rfl, rfl⟩) | (go_at_call 80; refine (HF.out _).mono ?_; rintro e w1 ⟨⟨_, _, rfl⟩, rfl⟩))
  exact ⟨rfl, ⟨_, _, rfl⟩, Keep.refl _ _⟩
theorem sym_fell {c : UInt8} {l : List UInt8} (h : RstO w b st) (hs : st.str = c :: l) (hd : isDig c = false)
    (hp : ∀ sep, Calls Tryd.prog 122 #[.pointer (some ⟨b, 0, none⟩), .bool sep] w (Fell b w)) :
    Calls Tryd.prog 106 #[.pointer (some ⟨b, 0, none⟩)] w (Fell b w) := by
  have c1 := h.str
  rw [hs] at c1
  have hp0 : 0 < (bs (c :: l)).size := by rw [bs_size]; simp
  have hlen : ¬ ((l.length : Int) + 1 < 1) := by omega
  have HP := Lib.hid hp
  have HD := Lib.hid (isDigit_no hd)
  clear h hs hd hp
  go_enter Tryd.func106, Tryd.ntmps106
  go_wp2_with (first | (go_at_call 61; refine (HD.out _).mono ?_; rintro e w1 ⟨rfl, rfl⟩) | (go_at_call 122; refine (HP.out _).mono ?_; rintro e w1 ⟨⟨_, _, rfl⟩, hb1⟩))
  exact ⟨rfl, ⟨_, _, rfl⟩, hb1⟩
theorem sym_one {c : UInt8} {l : List UInt8} {s1 : St} (h : RstO w b st) (hs : st.str = c :: l) (hd : isDig c = false) (h1 : s1.str = [])
    (hp : ∀ sep, Calls Tryd.prog 122 #[.pointer (some ⟨b, 0, none⟩), .bool sep] w (Done b w (.tuple #[]) s1)) :
    Calls Tryd.prog 106 #[.pointer (some ⟨b, 0, none⟩)] w (Done b w (.tuple #[]) s1) := by
  have c1 := h.str
  rw [hs] at c1
  have hp0 : 0 < (bs (c :: l)).size := by rw [bs_size]; simp
  have hlen : ¬ ((l.length : Int) + 1 < 1) := by omega
  have HP := Lib.hid hp
  have HD := Lib.hid (isDigit_no hd)
  have HC := Lib.hid (fun (W : World) (hW : RstO W b s1) => (show W.cell? ⟨b, 1, none⟩ = some (.string (bs [])) from by rw [hW.str, h1]))
  clear h hs hd hp h1
  go_enter Tryd.func106, Tryd.ntmps106
  go_wp2_with (first | (go_at_call 61; refine (HD.out _).mono ?_; rintro e w1 ⟨rfl, rfl⟩) | (go_at_call 122; refine (HP.out _).mono ?_; rintro e w1 ⟨rfl, h2, hb1⟩; have c2 := HC.out _ h2))
  go_end0
  exact ⟨rfl, h2, hb1⟩
theorem sym_two {c d : UInt8} {l t : List UInt8} {s1 : St} {r : Option St} (h : RstO w b st) (hs : st.str = c :: l) (hd : isDig c = false) (h1 : s1.str = d :: t)
    (hp : ∀ sep, Calls Tryd.prog 122 #[.pointer (some ⟨b, 0, none⟩), .bool sep] w (Done b w (.tuple #[]) s1))
    (hq : ∀ W sep, RstO W b { s1 with skip := true } → Below b w W → Calls Tryd.prog 122 #[.pointer (some ⟨b, 0, none⟩), .bool sep] W (PathEnd b W r)) :
    Calls Tryd.prog 106 #[.pointer (some ⟨b, 0, none⟩)] w (PathEnd b w r) := by
  have c1 := h.str
  rw [hs] at c1
  have hp0 : 0 < (bs (c :: l)).size := by rw [bs_size]; simp
  have hlen : ¬ ((l.length : Int) + 1 < 1) := by omega
  have hlen2 : (0 : Int) < (t.length : Int) + 1 := by omega
  have HP := Lib.hid hp
  have HQ := Lib.hid hq
  have HD := Lib.hid (isDigit_no hd)
  have HC := Lib.hid (fun (W : World) (hW : RstO W b s1) => (show W.cell? ⟨b, 1, none⟩ = some (.string (bs (d :: t))) ∧ W.cell? ⟨b, 5, none⟩ = some (.bool s1.skip) ∧ W.frozen? ⟨b, 5, none⟩ = false from ⟨by rw [hW.str, h1], hW.skip, hW.free 5⟩))
  have HR := Lib.hid (fun (W : World) (hW : RstO W b s1) => (show RstO (W.setCell ⟨b, 5, none⟩ (.bool true)) b { s1 with skip := true } from by obtain ⟨o, hW⟩ := hW; exact ⟨o, hW.setSkip true⟩))
  clear h hs hd hp h1 hq
  cases r with
  | none =>
    go_enter Tryd.func106, Tryd.ntmps106
    go_wp2_with (first | (go_at_call 61; refine (HD.out _).mono ?_; rintro e w1 ⟨rfl, rfl⟩) | (go_at_call 122; refine (HP.out _).mono ?_; rintro e w1 ⟨rfl, h2, hb1⟩; obtain ⟨c2, c3, f3⟩ := HC.out _ h2; clear HP) | (go_at_call 122; refine (HQ.out _ _ (HR.out _ h2) (hb1.setCell (p := ⟨b, 5, none⟩) rfl _).below).mono ?_; rintro e w3 ⟨⟨_, _, rfl⟩, hb3⟩))
    exact ⟨rfl, ⟨_, _, rfl⟩, (hb1.setCell (p := ⟨b, 5, none⟩) rfl _).trans hb3⟩
  | some s2 =>
    go_enter Tryd.func106, Tryd.ntmps106
    go_wp2_with (first | (go_at_call 61; refine (HD.out _).mono ?_; rintro e w1 ⟨rfl, rfl⟩) | (go_at_call 122; refine (HP.out _).mono ?_; rintro e w1 ⟨rfl, h2, hb1⟩; obtain ⟨c2, c3, f3⟩ := HC.out _ h2; clear HP) | (go_at_call 122; refine (HQ.out _ _ (HR.out _ h2) (hb1.setCell (p := ⟨b, 5, none⟩) rfl _).below).mono ?_; rintro e w3 ⟨rfl, h3, hb3⟩))
    go_end0
    exact ⟨rfl, h3, (hb1.setCell (p := ⟨b, 5, none⟩) rfl _).trans hb3⟩

theorem sym_any {f : Nat} {r : Option St} (h : RstO w b st) (hr : rsym f st = some r) (hl : st.str.length ≤ 1000000000000) (hm : 0 ≤ st.max) (ho : st.out.length + 40 * st.str.length ≤ 1000000000000) (hP : Pow w b) :
    Calls Tryd.prog 106 #[.pointer (some ⟨b, 0, none⟩)] w (PathEnd b w r) := by
  unfold rsym at hr
  split at hr
  · rename_i hs
    simp only [Option.some.injEq] at hr
    subst hr
    exact sym_nil h hs
  · rename_i c l hs
    cases hd : isDig c with
    | true =>
      rw [if_pos hd] at hr
      simp only [Option.some.injEq] at hr
      subst hr
      exact sym_digit h hs hd
    | false =>
      rw [if_neg (by rw [hd]; simp)] at hr
      cases hp : rpath f st with
      | none => rw [hp] at hr; cases hr
      | some o =>
        rw [hp] at hr
        have hc := fun sep => path_any f sep h hp hl hm ho hP
        cases o with
        | none =>
          simp only [Option.some.injEq] at hr
          subst hr
          exact sym_fell h hs hd hc
        | some s1 =>
          simp only at hr
          by_cases h1 : s1.str = []
          · rw [if_pos h1] at hr
            simp only [Option.some.injEq] at hr
            subst hr
            exact sym_one h hs hd h1 hc
          · rw [if_neg h1] at hr
            obtain ⟨d, t, hdt⟩ : ∃ d t, s1.str = d :: t := by
              cases hx : s1.str with
              | nil => exact absurd hx h1
              | cons d t => exact ⟨d, t, rfl⟩
            obtain ⟨g1, g2, g3⟩ := rpath_grows _ _ _ hp
            exact sym_two h hs hd hdt hc (fun W sep hW hB => path_any f sep hW hr (by show s1.str.length ≤ _; omega) (by show 0 ≤ s1.max; omega) (by show s1.out.length + 40 * s1.str.length ≤ _; omega) (hP.keep hB (Nat.le_refl _)))
end
end Go.Proofs.YtokjbdofpdncdaaDoor
