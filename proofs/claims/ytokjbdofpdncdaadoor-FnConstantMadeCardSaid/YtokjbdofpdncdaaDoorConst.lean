/- A constant read by the reader: the walk. -/
import Derived.Test.YtokjbdofpdncdaaDoorByte
import Derived.Test.YtokjbdofpdncdaaDoorFmtUint
import Derived.Test.YtokjbdofpdncdaaDoorConstP
import Derived.Test.YtokjbdofpdncdaaDoorAdv
import Derived.Deep.DeepCutAuto
import Derived.Deep.LoopGhost
import Derived.Deep.CutBlock
import Derived.WalkMore
import Derived.IntWalk
import Derived.Deep.RegionWith
namespace Go.Proofs.YtokjbdofpdncdaaDoor
open Go.RowKit Go.Lib
set_option linter.unusedVariables false
set_option maxRecDepth 100000
attribute [local go_sem] bs_size bs_get0

theorem Rst.keep {w w' : World} {b : Nat} {st : St} (h : Rst w b st) (hb : Below w.heap.size w w') : Rst w' b st := by
  obtain ⟨x, av, bv, h1, h2, h3⟩ := h
  refine ⟨x, av, bv, h1.below hb h1.lt, h2, h3.1, ?_⟩
  rcases h3.2 with h | ⟨g, cap, cur, hv, hbg, hg, r⟩
  · exact .inl h
  · have hlt : g < w.heap.size := by
      rcases Nat.lt_or_ge g w.heap.size with h | h
      · exact h
      · rw [Array.getElem?_eq_none h] at hg; cases hg
    exact .inr ⟨g, cap, cur, hv, hbg, (hb.block g hlt).trans hg, r⟩

theorem Rst.last {w : World} {b : Nat} {st : St} (h : Rst w b st) : ∃ q, w.cell? ⟨b, 7, none⟩ = some (.int .u8 q) := by
  obtain ⟨x, av, bv, h, _⟩ := h
  exact ⟨x, h.cell 7⟩

theorem byte_put {w : World} {b : Nat} {orig : ByteArray} {t : List UInt8} {o life : Int} {out : List UInt8} {noGen : Bool} (h : Rst w b ⟨orig, t, o, out, false, life, noGen, 0⟩) (c : UInt8) (hlen : out.length ≤ 140737488355327) :
    Calls Tryd.prog 95 #[.pointer (some ⟨b, 0, none⟩), .int .u8 (c.toNat : Int)] w (Done b w (.tuple #[]) ⟨orig, t, o, out ++ [c], false, life, noGen, 0⟩) := by
  have := byte_any h rfl c (by show out.length + 1 ≤ _; omega)
  exact this
theorem byte_quote {w : World} {b : Nat} {orig : ByteArray} {t : List UInt8} {o life : Int} {out : List UInt8} {noGen : Bool} (h : Rst w b ⟨orig, t, o, out, false, life, noGen, 0⟩) (hlen : out.length ≤ 140737488355327) :
    Calls Tryd.prog 95 #[.pointer (some ⟨b, 0, none⟩), .int .u8 39] w (Done b w (.tuple #[]) ⟨orig, t, o, out ++ [39], false, life, noGen, 0⟩) := byte_put h 39 hlen

def ConstEnd (b : Nat) (w : World) (st : St) (k : Nat) (neg : Bool) (res : Option (Nat × Nat × List UInt8)) (e : Ending) (w' : World) : Prop :=
  match res with
  | none => Fell b w e w'
  | some (v, _, r) => Done b w (.tuple #[]) { st with str := r, out := st.out ++ signText neg ++ (kindText k v).getD [] } e w'
set_option maxHeartbeats 4000000 in
theorem const_any {w : World} {b : Nat} {st : St} {c : UInt8} {l m : List UInt8} {k : Nat} {neg : Bool} {res : Option (Nat × Nat × List UInt8)} (h : Rst w b st) (hc : st.str = c :: l) (hk : c ∈ kindLetters) (hkk : kindOf c = k) (hsk : st.skip = false) (hm : st.max = 0) (hl : st.str.length ≤ 9223372036854775000)
    (ho : st.out.length ≤ 1000000) (hp : Pow w b) (hs : Signed k l neg m) (hres : hexgo 0 0 m = some res) (hfit : ConstFits k res) :
    Calls Tryd.prog 73 #[.pointer (some ⟨b, 0, none⟩)] w (ConstEnd b w st k neg res) := by
  have c1 : w.cell? ⟨b, 1, none⟩ = some (.string (bs (c :: l))) := by rw [h.str, hc]
  have hp0 : 0 < (bs (c :: l)).size := by rw [bs_size]; simp
  have hlen : ¬ ((l.length : Int) + 1 < 1) := by omega
  have hB : c ≠ 66 ∧ c ≠ 112 := by
    constructor <;> (rintro rfl; revert hk; decide)
  have n1 : ((c.toNat : Int) == 66) = false := by
    have : c.toNat ≠ 66 := fun e => hB.1 (UInt8.toNat_inj.1 e)
    simp; omega
  have n2 : ((c.toNat : Int) == 112) = false := by
    have : c.toNat ≠ 112 := fun e => hB.2 (UInt8.toNat_inj.1 e)
    simp; omega
  have HA := Lib.hid (advance_one h hc (by omega))
  have HR := Lib.hid hres
  have HF := Lib.hid hfit
  have HP := Lib.hid hp
  have hll : l.length ≤ 9223372036854774999 := by rw [hc, List.length_cons] at hl; omega
  obtain ⟨orig, str, off, out, skip, life, noGen, max⟩ := st
  simp only at hc hsk hm ho hl
  subst hc hsk hm
  clear h hB hl hres hfit hp
  go_enter Tryd.func73, Tryd.ntmps73
  go_step3
  go_upto_block 0 with fail
  go_cut [3] (fun v wc => v = .int .i64 (k : Int) ∧ w = wc)
  case first =>
    clear HA HR HF HP hs
    simp only [kindLetters, List.mem_cons, List.mem_nil_iff, or_false] at hk
    rcases hk with rfl | rfl | rfl | rfl | rfl | rfl | rfl | rfl | rfl | rfl | rfl | rfl | rfl | rfl
    all_goals as_aux_lemma =>
      subst hkk
      go_wp2
      go_meet
      exact ⟨by kernel_rfl, rfl⟩
  case rest =>
    obtain ⟨rfl, rfl⟩ := hcut
    have hk4 : k = 1 ∨ k = 2 ∨ k = 3 ∨ k = 4 := by
      simp only [kindLetters, List.mem_cons, List.mem_nil_iff, or_false] at hk
      rcases hk with rfl | rfl | rfl | rfl | rfl | rfl | rfl | rfl | rfl | rfl | rfl | rfl | rfl | rfl <;> subst hkk <;> decide
    clear hk hkk n1 n2 c1 hp0 hlen
    go_upto_region 30 with (go_at_call 81; refine (HA.out).mono ?_; rintro e w1 ⟨rfl, ⟨o1, h1⟩, hb1⟩)
    have c1 := h1.str
    simp only at c1
    have H1 := Lib.hid h1
    clear h1
    go_cut [3, 82] (fun v t wc => v = .int .i64 (k : Int) ∧ t = .bool neg ∧ w1 = wc)
    case first =>
      rcases hs with ⟨rfl, rfl, rfl⟩ | ⟨rfl, ⟨d, t, rfl, hd⟩, rfl, rfl⟩ | ⟨hk1, rfl, rfl⟩
      · as_aux_lemma =>
        have hp0 : 0 < (bs (110 :: m)).size := by rw [bs_size]; simp
        have hlen : (0 : Int) < ((m.length : Int) + 1) := by omega
        have cb : ((110 : UInt8).toNat : Int) = 110 := rfl
        go_wp2
        go_meet
        exact ⟨rfl, rfl, rfl⟩
      · as_aux_lemma =>
        have hp0 : 0 < (bs (d :: t)).size := by rw [bs_size]; simp
        have hlen : (0 : Int) < ((t.length : Int) + 1) := by omega
        have hdn : d.toNat ≠ 110 := fun e => hd (UInt8.toNat_inj.1 e)
        have cb : ((d.toNat : Int) == 110) = false := by simp; omega
        clear hd hdn
        go_wp2
        go_meet
        exact ⟨rfl, rfl, rfl⟩
      · as_aux_lemma =>
        have cb : ((k : Int) == 1) = false := by simp; omega
        clear hk1
        go_wp2
        go_meet
        exact ⟨rfl, rfl, rfl⟩
    case rest =>
    obtain ⟨rfl, rfl, rfl⟩ := hcut
    go_upto_if 82 with fail
    go_cut [3] (fun v wc => v = .int .i64 (k : Int) ∧ (∃ o, Rst wc b ⟨orig, m, o, out ++ signText neg, false, life, noGen, 0⟩) ∧ Keep b w wc)
    case first =>
      cases neg with
      | true => as_aux_lemma =>
        obtain rfl : l = 110 :: m := by
          rcases hs with ⟨_, h, _⟩ | ⟨_, _, _, h⟩ | ⟨_, _, h⟩
          · exact h
          · cases h
          · cases h
        have HA2 := Lib.hid (advance_one H1.out rfl (by simp only [List.length_cons] at hll ⊢; omega))
        have HY := Lib.hid (fun (w2 : World) (o : Int) (h2 : Rst w2 b ⟨orig, m, o, out, false, life, noGen, 0⟩) => byte_any h2 rfl 45 (by show out.length + 1 ≤ _; omega))
        clear H1 hs
        go_wp2_with (first | (go_at_call 81; refine (HA2.out).mono ?_; rintro e w2 ⟨rfl, ⟨o2, h2⟩, hb2⟩) | (go_at_call 95; refine (HY.out _ _ h2).mono ?_; rintro e w3 ⟨rfl, ⟨o3, h3⟩, hb3⟩))
        go_meet
        exact ⟨rfl, ⟨_, h3⟩, (hb1.trans hb2).trans hb3⟩
      | false => as_aux_lemma =>
        obtain rfl : m = l := by
          rcases hs with ⟨_, _, h⟩ | ⟨_, _, h, _⟩ | ⟨_, h, _⟩
          · cases h
          · exact h
          · exact h
        go_wp2
        go_meet
        refine ⟨rfl, ⟨o1, ?_⟩, hb1⟩
        rw [show out ++ signText false = out from List.append_nil out]
        exact H1.out
    case rest =>
    obtain ⟨rfl, ⟨o2, h2⟩, hb2⟩ := hcut
    have hml : m.length ≤ 9223372036854774999 := by
      rcases hs with ⟨_, h, _⟩ | ⟨_, _, h, _⟩ | ⟨_, h, _⟩
      · rw [h, List.length_cons] at hll; omega
      · rw [h]; exact hll
      · rw [h]; exact hll
    have hsl : (out ++ signText neg).length ≤ 1000001 := by cases neg <;> simp [signText] <;> omega
    generalize hout : out ++ signText neg = out2 at h2 hsl
    clear HA H1 hs hll c1 hb1
    have c2 := h2.str
    simp only at c2
    obtain ⟨n0, hn0⟩ : ∃ n : Nat, m.length = n := ⟨_, rfl⟩
    go_wp2_with fail
    go_step3
    go_wp2_with fail
    go_loopg [5, 6] n0 (fun g d v wr => ∃ (x : Nat) (n : Nat) (t : List UInt8) (o : Int), d = .int .i64 (n : Int) ∧ v = .int .u64 (x : Int) ∧ x < 18446744073709551616 ∧ Rst wr b ⟨orig, t, o, out2, false, life, noGen, 0⟩ ∧ Keep b w wr ∧ Hid (hexgo x n t = some res) ∧ Hid (t.length = g) ∧ t.length + n ≤ 9223372036854774999)
    case atStart => exact ⟨0, 0, m, o2, rfl, rfl, by decide, h2, hb2, HR.out, hn0, by omega⟩
    case round =>
      clear c2 h2 hb2 HR hn0 hml
      obtain ⟨x, n, t, o, rfl, rfl, hx, h3, hb3, hr3, hg3, hl3⟩ := hrel
      have c3 := h3.str
      simp only at c3
      have H3 := Lib.hid h3
      clear h3
      cases t with
      | nil => cases hr3.out
      | cons d t =>
        by_cases hd95 : d = 95
        · subst hd95
          have he := hr3.out
          rw [hexgo_under] at he
          simp only [Option.some.injEq] at he
          subst he
          have hf := HF.out
          unfold ConstFits at hf
          simp only at hf
          obtain ⟨f1, f2, f3, f4, f5, f6⟩ := hf
          have HA := Lib.hid (advance_one H3.out rfl (by simp only [List.length_cons] at hl3 ⊢; omega))
          have cb : ((95 : UInt8).toNat : Int) = 95 := rfl
          have hp0 : 0 < (bs (95 :: t)).size := by rw [bs_size]; simp
          have hlen : (0 : Int) < ((t.length : Int) + 1) := by omega
          have hn0 : ((n : Int) == 0) = false := by simp; omega
          clear hr3 H3 hg3 hl3 HF
          rcases Nat.lt_or_ge k 3 with hk3 | hk3
          · as_aux_lemma =>
            have ht : kindText k x = some (decDigits x) := if_pos (by omega)
            have hn16 : ¬ ((n : Int) > 16) := by omega
            have hxl := decDigits_len 19 x (by omega)
            have HE := Lib.hid (fun (w4 : World) (o4 : Int) (h4 : Rst w4 b ⟨orig, t, o4, out2, false, life, noGen, 0⟩) (hb4 : Keep b w w4) => fmtUint_any (w := w4.drew) (HP.out.keep hb4.below.drew (Nat.le_refl _)) x f6)
            have HB := Lib.hid (fun (w5 : World) (o4 : Int) (h4 : Rst w5 b ⟨orig, t, o4, out2, false, life, noGen, 0⟩) => builderWrite_any h4 (decDigits x) (by show out2.length + _ ≤ _; omega))
            rcases hk4 with rfl | rfl | rfl | rfl
            rotate_left 2
            · omega
            · omega
            all_goals
              have ht2 := congrArg (fun o => Option.getD o ([] : List UInt8)) ht
              simp only [Option.getD_some] at ht2
              go_wp2_with (go_at_call 81; refine (HA.out).mono ?_; rintro e w4 ⟨rfl, ⟨o4, h4⟩, hb4⟩; replace hb4 := hb3.trans hb4; have c5 := h4.skip; simp only at c5)
              go_region_with (first
                | (go_at_call 96; refine (HE.out _ _ h4 hb4).mono ?_; rintro e w5 ⟨rfl, hb5⟩; have hlt := Nat.le_of_lt h4.lt; replace h4 := h4.drew.keep hb5; replace hb5 := hb4.drew.trans (Keep.of_below hb5 (Nat.le_refl _) hlt))
                | (go_at_call 62; refine (HB.out _ _ h4).mono ?_; rintro e w6 ⟨⟨v, rfl⟩, h6, hb6⟩; replace hb6 := hb5.trans hb6))
              all_goals
                obtain ⟨q7, c7⟩ := h6.last
                have f7 := h6.free 7
                have H6 := Lib.hid h6
                clear h6 h4
                go_wp2
                show bodyPost _ _ _ Exit.normal _ _
                go_end0
                refine ⟨rfl, ⟨o4, ?_⟩, hb6.setCell (p := ⟨b, 7, none⟩) rfl _⟩
                show Rst _ b ⟨orig, t, o4, out ++ signText neg ++ (kindText _ x).getD [], false, life, noGen, 0⟩
                rw [ht2, hout]
                exact H6.out.setLast 48
          · rcases hk4 with rfl | rfl | rfl | rfl
            · omega
            · omega
            · as_aux_lemma =>
              have hn1 : ¬ ((n : Int) > 1) := by omega
              have HW0 := Lib.hid (fun (w5 : World) (o4 : Int) (h4 : Rst w5 b ⟨orig, t, o4, out2, false, life, noGen, 0⟩) => write_any h4 rfl [102, 97, 108, 115, 101] (by show out2.length + 5 ≤ _; omega))
              have HW1 := Lib.hid (fun (w5 : World) (o4 : Int) (h4 : Rst w5 b ⟨orig, t, o4, out2, false, life, noGen, 0⟩) => write_any h4 rfl [116, 114, 117, 101] (by show out2.length + 4 ≤ _; omega))
              by_cases hx0 : x = 0
              · subst hx0
                clear f5 HP
                go_wp2_with (first
                  | (go_at_call 81; refine (HA.out).mono ?_; rintro e w4 ⟨rfl, ⟨o4, h4⟩, hb4⟩; replace hb4 := hb3.trans hb4)
                  | (go_at_call 82; refine (HW0.out _ _ h4).mono ?_; rintro e w5 ⟨rfl, ⟨o5, h5⟩, hb5⟩))
                show bodyPost _ _ _ Exit.normal _ _
                go_end0
                refine ⟨rfl, ⟨o5, ?_⟩, hb4.trans hb5⟩
                show Rst _ b ⟨orig, t, o5, out ++ signText neg ++ [102, 97, 108, 115, 101], false, life, noGen, 0⟩
                rw [hout]
                exact h5
              · have hx1 : x = 1 := by
                  by_cases h1 : x = 1
                  · exact h1
                  · simp [kindText, hx0, h1] at f5
                subst hx1
                clear f5 HP hx0
                go_wp2_with (first
                  | (go_at_call 81; refine (HA.out).mono ?_; rintro e w4 ⟨rfl, ⟨o4, h4⟩, hb4⟩; replace hb4 := hb3.trans hb4)
                  | (go_at_call 82; refine (HW1.out _ _ h4).mono ?_; rintro e w5 ⟨rfl, ⟨o5, h5⟩, hb5⟩))
                show bodyPost _ _ _ Exit.normal _ _
                go_end0
                refine ⟨rfl, ⟨o5, ?_⟩, hb4.trans hb5⟩
                show Rst _ b ⟨orig, t, o5, out ++ signText neg ++ [116, 114, 117, 101], false, life, noGen, 0⟩
                rw [hout]
                exact h5
            · as_aux_lemma =>
              have hn6 : ¬ ((n : Int) > 6) := by omega
              have hch : 32 ≤ x ∧ x ≤ 126 ∧ x ≠ 39 ∧ x ≠ 92 := by
                by_cases h1 : 32 ≤ x ∧ x ≤ 126 ∧ x ≠ 39 ∧ x ≠ 92
                · exact h1
                · simp [kindText, h1] at f5
              have ht2 : (kindText 4 x).getD [] = [39, UInt8.ofNat x, 39] := by simp [kindText, hch]
              obtain ⟨C, rfl⟩ : ∃ C : UInt8, x = C.toNat := ⟨UInt8.ofNat x, by rw [UInt8.toNat_ofNat']; omega⟩
              have hCx : UInt8.ofNat C.toNat = C := by simp
              have HY0 := Lib.hid (fun (w5 : World) (o4 : Int) (h4 : Rst w5 b ⟨orig, t, o4, out2, false, life, noGen, 0⟩) => byte_quote h4 (by omega))
              have HY1 := Lib.hid (fun (w5 : World) (o4 : Int) (h4 : Rst w5 b ⟨orig, t, o4, out2 ++ [39], false, life, noGen, 0⟩) => byte_put h4 C (by simp; omega))
              have HY2 := Lib.hid (fun (w5 : World) (o4 : Int) (h4 : Rst w5 b ⟨orig, t, o4, (out2 ++ [39]) ++ [C], false, life, noGen, 0⟩) => byte_quote h4 (by simp; omega))
              replace ht2 := Lib.hid ht2
              replace hCx := Lib.hid hCx
              have e1 : ((C.toNat : Int) == 9) = false := by simp; omega
              have e2 : ((C.toNat : Int) == 13) = false := by simp; omega
              have e3 : ((C.toNat : Int) == 10) = false := by simp; omega
              have e4 : ((C.toNat : Int) == 92) = false := by simp; omega
              have e5 : ((C.toNat : Int) == 39) = false := by simp; omega
              have e6 : 32 ≤ (C.toNat : Int) := by omega
              have e7 : (C.toNat : Int) ≤ 126 := by omega
              have e8 : IntKind.u8.wrap (C.toNat : Int) = (C.toNat : Int) := IntWalk.u8_in _ ⟨by omega, by omega⟩
              clear f5 HP hch f6 hx
              go_wp2_with (first
                | (go_at_call 81; refine (HA.out).mono ?_; rintro e w4 ⟨rfl, ⟨o4, h4⟩, hb4⟩; replace hb4 := hb3.trans hb4)
                | (go_at_call 95; refine (HY0.out _ _ h4).mono ?_; rintro e w5 ⟨rfl, ⟨o5, h5⟩, hb5⟩; clear h4; replace hb5 := hb4.trans hb5)
                | (go_at_call 95; refine (HY1.out _ _ h5).mono ?_; rintro e w6 ⟨rfl, ⟨o6, h6⟩, hb6⟩; clear h5; replace hb6 := hb5.trans hb6)
                | (go_at_call 95; refine (HY2.out _ _ h6).mono ?_; rintro e w7 ⟨rfl, ⟨o7, h7⟩, hb7⟩; replace hb7 := hb6.trans hb7))
              show bodyPost _ _ _ Exit.normal _ _
              go_end0
              refine ⟨rfl, ⟨o7, ?_⟩, hb7⟩
              show Rst _ b ⟨orig, t, o7, out ++ signText neg ++ (kindText 4 C.toNat).getD [], false, life, noGen, 0⟩
              rw [ht2.out, hout, hCx.out]
              simpa using h7
        · have hd95n : d.toNat ≠ 95 := fun e => hd95 (UInt8.toNat_inj.1 e)
          have cb : ((d.toNat : Int) == 95) = false := by simp; omega
          have hp0 : 0 < (bs (d :: t)).size := by rw [bs_size]; simp
          have hlen : (0 : Int) < ((t.length : Int) + 1) := by omega
          have HA := Lib.hid (advance_one H3.out rfl (by simp only [List.length_cons] at hl3 ⊢; omega))
          have hl3' : t.length + (n + 1) ≤ 9223372036854774999 := by rw [List.length_cons] at hl3; omega
          have hg4 := hg3.out
          rw [List.length_cons] at hg4
          have hdlt := d.toNat_lt
          clear hl3 hg3
          by_cases a1 : 48 ≤ d.toNat ∧ d.toNat ≤ 57
          · have t1 : 48 ≤ (d.toNat : Int) := by omega
            have t2 : (d.toNat : Int) ≤ 57 := by omega
            have hx1 : hexd d = some (d.toNat - 48) := by simp [hexd, a1]
            by_cases hx0 : x = 0
            · have xb : ((x : Int) == 0) = true := by simp [hx0]
              by_cases hy0 : d.toNat = 48
              · obtain rfl : d = 48 := UInt8.toNat_inj.1 hy0
                have cb48 : ((48 : UInt8).toNat : Int) = 48 := rfl
                subst hx0
                have hx2 : hexd 48 = some 0 := rfl
                cases t with
                | nil => as_aux_lemma =>
                  have he := hr3.out
                  rw [hexgo_zero hd95 hx2 rfl] at he
                  simp only [Option.some.injEq] at he
                  subst he
                  clear hr3 hx1 a1 hx2 hy0
                  go_wp2_with (first | (go_at_call 81; refine (HA.out).mono ?_; rintro e w4 ⟨rfl, ⟨o4, h4⟩, hb4⟩; replace hb4 := hb3.trans hb4; have c4 := h4.str; try simp only at c4) | (go_at_call 80; refine (fail_any h4 _).mono ?_; rintro e w5 ⟨⟨_, _, rfl⟩, rfl⟩))
                  exact ⟨rfl, ⟨_, _, rfl⟩, hb4⟩
                | cons e2 t2 =>
                  have hp2 : 0 < (bs (e2 :: t2)).size := by rw [bs_size]; simp
                  have hz2 : ((t2.length : Int) + 1 == 0) = false := by simp; omega
                  by_cases he2 : e2 = 95
                  · as_aux_lemma =>
                    subst he2
                    have cb95 : ((95 : UInt8).toNat : Int) = 95 := rfl
                    have HN := Lib.hid (hexgo_on (x := 0) (n := n) (t := 95 :: t2) hd95 hx2 (fun h => by simp [headIs] at h))
                    have HR3 := Lib.hid (HN.out.symm.trans hr3.out)
                    clear hr3 hx1 a1 hx2 hy0
                    go_wp2_with (go_at_call 81; refine (HA.out).mono ?_; rintro e w4 ⟨rfl, ⟨o4, h4⟩, hb4⟩; replace hb4 := hb3.trans hb4; have c4 := h4.str; try simp only at c4)
                    go_roundg (95 :: t2).length
                    case measure => omega
                    case rel => exact ⟨(0 * 16 + 0) % 18446744073709551616, n + 1, 95 :: t2, o4, by go_num, congrArg (Value.int .u64) (by first | (simp only [IntKind.wrap_u64]; omega) | omega), Nat.mod_lt _ (by decide), h4, hb4, HR3.out, rfl, by omega⟩
                  · as_aux_lemma =>
                    have he := hr3.out
                    rw [hexgo_zero hd95 hx2 (by simpa [headIs] using he2)] at he
                    simp only [Option.some.injEq] at he
                    subst he
                    have hen : e2.toNat ≠ 95 := fun e => he2 (UInt8.toNat_inj.1 e)
                    have eb : ((e2.toNat : Int) == 95) = false := by simp; omega
                    have eb2 : ((e2.toNat : Int) != 95) = true := by simp; omega
                    clear hr3 hx1 a1 hx2 hy0 he2 hen
                    go_wp2_with (first | (go_at_call 81; refine (HA.out).mono ?_; rintro e w4 ⟨rfl, ⟨o4, h4⟩, hb4⟩; replace hb4 := hb3.trans hb4; have c4 := h4.str; try simp only at c4) | (go_at_call 80; refine (fail_any h4 _).mono ?_; rintro e w5 ⟨⟨_, _, rfl⟩, rfl⟩))
                    exact ⟨rfl, ⟨_, _, rfl⟩, hb4⟩
              · as_aux_lemma =>
                have yb : ((d.toNat : Int) - 48 == 0) = false := by simp; omega
                have HN := Lib.hid (hexgo_on (x := x) (n := n) (t := t) hd95 hx1 (fun h => hy0 (by omega)))
                have HR3 := Lib.hid (HN.out.symm.trans hr3.out)
                clear hr3 hx1 hy0
                go_wp2_with (go_at_call 81; refine (HA.out).mono ?_; rintro e w4 ⟨rfl, ⟨o4, h4⟩, hb4⟩; replace hb4 := hb3.trans hb4; have c4 := h4.str; try simp only at c4)
                go_roundg (t).length
                case measure => omega
                case rel => exact ⟨(x * 16 + (d.toNat - 48)) % 18446744073709551616, n + 1, t, o4, by go_num, congrArg (Value.int .u64) (by first | (simp only [IntKind.wrap_u64]; omega) | omega), Nat.mod_lt _ (by decide), h4, hb4, HR3.out, rfl, by omega⟩
            · have xb : ((x : Int) == 0) = false := by simp; omega
              have HN := Lib.hid (hexgo_on (x := x) (n := n) (t := t) hd95 hx1 (fun h => hx0 h.1))
              have HR3 := Lib.hid (HN.out.symm.trans hr3.out)
              clear hr3 hx1 a1 hx0
              go_wp2_with (go_at_call 81; refine (HA.out).mono ?_; rintro e w4 ⟨rfl, ⟨o4, h4⟩, hb4⟩; replace hb4 := hb3.trans hb4; have c4 := h4.str; try simp only at c4)
              go_roundg t.length
              case measure => omega
              case rel => exact ⟨(x * 16 + (d.toNat - 48)) % 18446744073709551616, n + 1, t, o4, by go_num, congrArg (Value.int .u64) (by first | (simp only [IntKind.wrap_u64]; omega) | omega), Nat.mod_lt _ (by decide), h4, hb4, HR3.out, rfl, by omega⟩
          · by_cases a2 : 97 ≤ d.toNat ∧ d.toNat ≤ 102
            · have t1 : 48 ≤ (d.toNat : Int) := by omega
              have t2 : ¬ (d.toNat : Int) ≤ 57 := by omega
              have t3 : 97 ≤ (d.toNat : Int) := by omega
              have t4 : (d.toNat : Int) ≤ 102 := by omega
              have hx1 : hexd d = some (d.toNat - 97 + 10) := by simp [hexd, a1, a2]
              have yb : ((d.toNat : Int) - 97 + 10 == 0) = false := by simp; omega
              by_cases hx0 : x = 0
              · as_aux_lemma =>
                have xb : ((x : Int) == 0) = true := by simp [hx0]
                have HN := Lib.hid (hexgo_on (x := x) (n := n) (t := t) hd95 hx1 (fun h => absurd h.2.1 (by omega)))
                have HR3 := Lib.hid (HN.out.symm.trans hr3.out)
                clear hr3 hx1
                go_wp2_with (go_at_call 81; refine (HA.out).mono ?_; rintro e w4 ⟨rfl, ⟨o4, h4⟩, hb4⟩; replace hb4 := hb3.trans hb4; have c4 := h4.str; try simp only at c4)
                go_roundg (t).length
                case measure => omega
                case rel => exact ⟨(x * 16 + (d.toNat - 97 + 10)) % 18446744073709551616, n + 1, t, o4, by go_num, congrArg (Value.int .u64) (by first | (simp only [IntKind.wrap_u64]; omega) | omega), Nat.mod_lt _ (by decide), h4, hb4, HR3.out, rfl, by omega⟩
              · as_aux_lemma =>
                have xb : ((x : Int) == 0) = false := by simp; omega
                have HN := Lib.hid (hexgo_on (x := x) (n := n) (t := t) hd95 hx1 (fun h => hx0 h.1))
                have HR3 := Lib.hid (HN.out.symm.trans hr3.out)
                clear hr3 hx1
                go_wp2_with (go_at_call 81; refine (HA.out).mono ?_; rintro e w4 ⟨rfl, ⟨o4, h4⟩, hb4⟩; replace hb4 := hb3.trans hb4; have c4 := h4.str; try simp only at c4)
                go_roundg (t).length
                case measure => omega
                case rel => exact ⟨(x * 16 + (d.toNat - 97 + 10)) % 18446744073709551616, n + 1, t, o4, by go_num, congrArg (Value.int .u64) (by first | (simp only [IntKind.wrap_u64]; omega) | omega), Nat.mod_lt _ (by decide), h4, hb4, HR3.out, rfl, by omega⟩
            · have hx1 : hexd d = none := by simp [hexd, a1, a2]
              have he := hr3.out
              rw [hexgo_bad hd95 hx1] at he
              simp only [Option.some.injEq] at he
              subst he
              clear hr3 HA
              rcases Nat.lt_or_ge d.toNat 48 with b1 | b1
              · as_aux_lemma =>
                have t1 : ¬ 48 ≤ (d.toNat : Int) := by omega
                have t3 : ¬ 97 ≤ (d.toNat : Int) := by omega
                clear a1 a2 hx1
                go_wp2_with (go_at_call 80; refine (fail_any H3.out _).mono ?_; rintro e w4 ⟨⟨_, _, rfl⟩, rfl⟩)
                exact ⟨rfl, ⟨_, _, rfl⟩, hb3⟩
              · rcases Nat.lt_or_ge d.toNat 97 with b2 | b2
                · as_aux_lemma =>
                  have t1 : 48 ≤ (d.toNat : Int) := by omega
                  have t2 : ¬ (d.toNat : Int) ≤ 57 := by omega
                  have t3 : ¬ 97 ≤ (d.toNat : Int) := by omega
                  clear a1 a2 hx1
                  go_wp2_with (go_at_call 80; refine (fail_any H3.out _).mono ?_; rintro e w4 ⟨⟨_, _, rfl⟩, rfl⟩)
                  exact ⟨rfl, ⟨_, _, rfl⟩, hb3⟩
                · as_aux_lemma =>
                  have t1 : 48 ≤ (d.toNat : Int) := by omega
                  have t2 : ¬ (d.toNat : Int) ≤ 57 := by omega
                  have t3 : 97 ≤ (d.toNat : Int) := by omega
                  have t4 : ¬ (d.toNat : Int) ≤ 102 := by omega
                  clear a1 a2 hx1
                  go_wp2_with (go_at_call 80; refine (fail_any H3.out _).mono ?_; rintro e w4 ⟨⟨_, _, rfl⟩, rfl⟩)
                  exact ⟨rfl, ⟨_, _, rfl⟩, hb3⟩
end Go.Proofs.YtokjbdofpdncdaaDoor
