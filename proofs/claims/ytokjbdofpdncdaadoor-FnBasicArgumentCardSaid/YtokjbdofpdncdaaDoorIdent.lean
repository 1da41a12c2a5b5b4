/- The reader's identifier, where it is not in Punycode: the walks. -/
import Derived.Test.YtokjbdofpdncdaaDoorDec
import Derived.Test.YtokjbdofpdncdaaDoorIdentP
import Derived.Deep.DeepCutAuto
namespace Go.Proofs.YtokjbdofpdncdaaDoor
open Go.RowKit
set_option linter.unusedVariables false
set_option maxRecDepth 100000
attribute [local go_sem] bs_size bs_get0 bs_to

/-- A name is read, or it fails. -/
def ReadName (b : Nat) (w : World) (st : St) (r : Option (List UInt8 × List UInt8)) (e : Ending) (w' : World) : Prop :=
  match r with
  | some (n, l) => Done b w (.tuple #[.string (bs n), .bool false]) { st with str := l } e w'
  | none => Fell b w e w'

set_option maxHeartbeats 4000000 in
theorem undis_any {w : World} {b : Nat} {st : St} (h : Rst w b st) (hu : noU st.str) (hl : st.str.length ≤ 9223372036854775807) :
    Calls Tryd.prog 140 #[.pointer (some ⟨b, 0, none⟩)] w (ReadName b w st (ident st.str)) := by
  obtain ⟨orig, str, off, out, skip, life, noGen, max⟩ := st
  simp only at hl hu
  have c1 := h.str
  simp only at c1
  have H := Lib.hid h
  have HD := Lib.hid (decimal_any h hl)
  simp only at HD
  obtain ⟨res, hres⟩ : ∃ r, ident str = r := ⟨_, rfl⟩
  rw [hres]
  unfold ident at hres
  have hh : str = [] ∨ ∃ c l, str = c :: l ∧ c ≠ 117 := by
    cases str with
    | nil => exact .inl rfl
    | cons c l => exact .inr ⟨c, l, rfl, fun e => hu l (by rw [e])⟩
  obtain ⟨dr, hdr⟩ : ∃ r, dec str = r := ⟨_, rfl⟩
  rw [hdr] at HD hres
  have hdr' := Lib.hid hdr
  clear hdr h hu
  cases dr with
  | none =>
    simp only at hres
    subst hres
    rcases hh with rfl | ⟨c, l, rfl, hc⟩
    all_goals
      try have hcn : c.toNat ≠ 117 := fun e => hc (UInt8.toNat_inj.1 e)
      try have hcb : ((c.toNat : Int) == 117) = false := by simp; omega
      try clear hc
      try clear hcn
      go_enter Tryd.func140, Tryd.ntmps140
      go_wp2_with (go_at_call 147; refine (HD.out).mono ?_; rintro e w1 ⟨⟨m, o, rfl⟩, hb1⟩)
      exact ⟨rfl, ⟨_, _, rfl⟩, hb1⟩
  | some p =>
    obtain ⟨v, l1⟩ := p
    simp only at hres
    obtain ⟨r0, r1, r2⟩ := dec_range hdr'.out
    obtain ⟨m, rfl⟩ : ∃ m : Nat, v = (m : Int) := ⟨v.toNat, by omega⟩
    rcases hh with rfl | ⟨c, l, rfl, hc⟩
    · have := hdr'.out; cases this
    have hcn : c.toNat ≠ 117 := fun e => hc (UInt8.toNat_inj.1 e)
    have hcb : ((c.toNat : Int) == 117) = false := by simp; omega
    have hl1 : l1.length ≤ 9223372036854775807 := by omega
    clear hc hcn hdr' r0 r2 hl
    have hl2 : (unUnder l1).length ≤ l1.length := by
      cases l1 with
      | nil => simp [unUnder]
      | cons d t =>
        by_cases h : d = 95
        · simp [unUnder, h]
        · simp [unUnder, h]
    have hu : l1 = [] ∨ (∃ t, l1 = 95 :: t) ∨ ∃ d t, l1 = d :: t ∧ d ≠ 95 := by
      cases l1 with
      | nil => exact .inl rfl
      | cons d t =>
        by_cases h : d = 95
        · exact .inr (.inl ⟨t, by rw [h]⟩)
        · exact .inr (.inr ⟨d, t, rfl, h⟩)
    have hres' := Lib.hid hres
    clear hres
    go_enter Tryd.func140, Tryd.ntmps140
    go_upto_region 6 with (go_at_call 147; refine (HD.out).mono ?_; rintro e w1 ⟨rfl, ⟨o1, h1⟩, hb1⟩)
    have c1' := h1.str
    simp only at c1'
    have H1 := Lib.hid h1
    clear h1
    go_cut [4, 38] (fun v t wc => v = .int .i64 (m : Int) ∧ t = .bool (isUnder l1) ∧ wc = w1)
    case first =>
      rcases hu with rfl | ⟨t, rfl⟩ | ⟨d, t, rfl, hd⟩
      · go_wp2
        go_meet
        exact ⟨rfl, rfl, rfl⟩
      · have cb : ((95 : UInt8).toNat : Int) = 95 := rfl
        go_wp2
        go_meet
        exact ⟨rfl, rfl, rfl⟩
      · have hdn : d.toNat ≠ 95 := fun e => hd (UInt8.toNat_inj.1 e)
        have hdb : ((d.toNat : Int) == 95) = false := by simp; omega
        have HD5 := Lib.hid hd
        clear hd hdn
        go_wp2
        go_meet
        refine ⟨rfl, ?_, rfl⟩
        have e : isUnder (d :: t) = false := by unfold isUnder; exact decide_eq_false HD5.out
        rw [e]
    case rest =>
    obtain ⟨rfl, rfl, rfl⟩ := hcut
    go_upto_if 38 with fail
    go_cut [4] (fun v wc => v = .int .i64 (m : Int) ∧ (∃ o, Rst wc b ⟨orig, unUnder l1, o, out, skip, life, noGen, max⟩) ∧ Keep b w wc)
    case first =>
      cases hun : isUnder l1 with
      | true =>
        obtain ⟨t, rfl⟩ := isUnder_yes hun
        clear hun
        go_wp2_with (go_at_call 81; refine (advance_one H1.out rfl hl1).mono ?_; rintro e w2 ⟨rfl, ⟨o2, h2⟩, hb2⟩)
        go_meet
        exact ⟨rfl, ⟨_, h2⟩, hb1.trans hb2⟩
      | false =>
        have HE := Lib.hid (isUnder_no hun)
        clear hun
        go_wp2
        go_meet
        refine ⟨rfl, ⟨o1, ?_⟩, hb1⟩
        rw [HE.out]
        exact H1.out
    case rest =>
      obtain ⟨rfl, ⟨o2, h2⟩, hb2⟩ := hcut
      clear c1 c1' H H1 hu hcb
      generalize hg : unUnder l1 = l2 at h2 hl2
      have hres := hres'.out
      rw [hg] at hres
      clear hres' hg HD
      unfold takeId at hres
      have c2 := h2.str
      simp only at c2
      have H2 := Lib.hid h2
      clear h2
      by_cases hv : (l2.length : Int) < (m : Int)
      · rw [if_pos hv] at hres
        subst hres
        go_wp2_with (go_at_call 80; refine (fail_any H2.out _).mono ?_; rintro e w3 ⟨⟨_, _, rfl⟩, rfl⟩)
        exact ⟨rfl, ⟨_, _, rfl⟩, hb2⟩
      · rw [if_neg hv] at hres
        simp only [Int.toNat_natCast] at hres
        have hv' : m ≤ l2.length := by omega
        have hvb : decide (l2.length < m) = false := decide_eq_false (by omega)
        obtain ⟨idl, hidl⟩ : ∃ x, l2.take m = x := ⟨_, rfl⟩
        have hidn : idl.length = m := by rw [← hidl, List.length_take]; omega
        rw [hidl] at hres
        have HR := Lib.hid hres
        have hl3 : l2.length ≤ 9223372036854775807 := by omega
        clear hres hv
        go_wp2_with (go_at_call 81; refine (advance_any H2.out m hv' hl3).mono ?_; rintro e w3 ⟨rfl, ⟨o3, h3⟩, hb3⟩)
        have H3 := Lib.hid h3
        clear h3
        go_loop [5] (fun i => ∃ k : Nat, k ≤ m ∧ i = .int .i64 k ∧ Hid (∀ j (h : j < idl.length), j < k → plainB (idl[j]) = true)) (fun i => ((m : Int) - intOf i).toNat)
        case atStart => exact ⟨0, by omega, rfl, fun j _ h => by omega⟩
        case round =>
          obtain ⟨k, hk, rfl, hp⟩ := hrel
          by_cases hk2 : k < m
          · have hkl : k < idl.length := by omega
            have hg := bs_get idl k (by rw [bs_size]; exact hkl)
            obtain ⟨d, hd⟩ : ∃ c, idl[k] = c := ⟨_, rfl⟩
            rw [hd] at hg
            have HD5 := Lib.hid hd
            clear hd
            cases hpl : plainB d with
            | true =>
              have hp4 := plain_cases hpl
              have HP := Lib.hid hpl
              clear hpl
              have hnext : Hid (∀ j (h : j < idl.length), j < k + 1 → plainB (idl[j]) = true) := by
                intro j hj hjk
                by_cases e : j = k
                · subst e
                  rw [HD5.out]; exact HP.out
                · exact hp.out j hj (by omega)
              rcases hp4 with ⟨a1, a2⟩ | ⟨a1, a2⟩ | ⟨a1, a2⟩ | a1
              · have t1 : 48 ≤ (d.toNat : Int) := by omega
                have t2 : (d.toNat : Int) ≤ 57 := by omega
                clear a1 a2
                go_wp2
                go_round
                case rel => exact ⟨k + 1, by omega, by go_num, hnext⟩
                case measure => simp [intOf]; omega
              · have t0 : ¬ (d.toNat : Int) ≤ 57 := by omega
                have t1 : 65 ≤ (d.toNat : Int) := by omega
                have t2 : (d.toNat : Int) ≤ 90 := by omega
                have t3 : 48 ≤ (d.toNat : Int) := by omega
                clear a1 a2
                go_wp2
                go_round
                case rel => exact ⟨k + 1, by omega, by go_num, hnext⟩
                case measure => simp [intOf]; omega
              · have t0 : ¬ (d.toNat : Int) ≤ 57 := by omega
                have t1 : ¬ (d.toNat : Int) ≤ 90 := by omega
                have t2 : (d.toNat : Int) ≤ 122 := by omega
                have t3 : 48 ≤ (d.toNat : Int) := by omega
                have t4 : 65 ≤ (d.toNat : Int) := by omega
                have t5 : 97 ≤ (d.toNat : Int) := by omega
                clear a1 a2
                go_wp2
                go_round
                case rel => exact ⟨k + 1, by omega, by go_num, hnext⟩
                case measure => simp [intOf]; omega
              · obtain rfl : d = 95 := UInt8.toNat_inj.1 a1
                have cb : ((95 : UInt8).toNat : Int) = 95 := rfl
                clear a1
                go_wp2
                go_round
                case rel => exact ⟨k + 1, by omega, by go_num, hnext⟩
                case measure => simp [intOf]; omega
            | false =>
              have hp4 := plain_not hpl
              have hres2 : res = none := by
                have e := HR.out
                rw [if_neg] at e
                · exact e.symm
                · intro hall
                  have := List.all_eq_true.1 hall _ (List.getElem_mem (show k < idl.length by omega))
                  rw [HD5.out, hpl] at this
                  cases this
              subst hres2
              clear hpl
              have hn95 : ((d.toNat : Int) == 95) = false := by simp; omega
              go_wp2_with (go_at_call 80; refine (fail_any H3.out _).mono ?_; rintro e w4 ⟨⟨_, _, rfl⟩, rfl⟩)
              all_goals exact ⟨rfl, ⟨_, _, rfl⟩, hb2.trans hb3⟩
          · obtain rfl : k = m := by omega
            go_wp2
            go_ret2
            have hall : idl.all plainB = true := List.all_eq_true.2 fun x hx => by
              obtain ⟨j, hj, rfl⟩ := List.mem_iff_getElem.1 hx
              exact hp.out j hj (by omega)
            have e := HR.out
            rw [if_pos hall] at e
            subst e
            exact ⟨rfl, ⟨_, H3.out⟩, hb2.trans hb3⟩
end Go.Proofs.YtokjbdofpdncdaaDoor
