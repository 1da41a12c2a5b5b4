/- The reader's path: a part within a path. -/
import Derived.Test.YtokjbdofpdncdaaDoorPath
namespace Go.Proofs.YtokjbdofpdncdaaDoor
open Go.RowKit Go.Lib
set_option linter.unusedVariables false
set_option maxRecDepth 100000
attribute [local go_sem] bs_size bs_get0

section
variable {w : World} {b : Nat} {st : St} {sep : Bool}
theorem nest_none (h : RstO w b st) (hs : st.str = [78]) :
    Calls Tryd.prog 122 #[.pointer (some ⟨b, 0, none⟩), .bool sep] w (Fell b w) := by
  have hlt := h.lt
  have c1 := h.str
  rw [hs] at c1
  have hp0 : 0 < (bs [78]).size := by rw [bs_size]; simp
  have cb : ((78 : UInt8).toNat : Int) = 78 := rfl
  have HA := Lib.hid (adv_o (w := boxed w b sep) ((h.alloc _).alloc _) hs (by rw [hs]; simp))
  have HF := Lib.hid (fun (W : World) (hW : RstO W b (st.on [])) m => fail_o hW m)
  have HC := Lib.hid (fun (W : World) (hW : RstO W b (st.on [])) => (show W.cell? ⟨b, 1, none⟩ = some (.string (bs [])) from hW.str))
  have HX := Lib.hid (fun (W : World) => boxed_cells (W := W) (sep := sep) hlt)
  have HK := Lib.hid (boxed_keep hlt sep)
  clear h hs
  go_enter Tryd.func122, Tryd.ntmps122
  go_wp2_with (first
    | (go_at_call 81; refine (HA.out).mono ?_; rintro e w2 ⟨rfl, h2, hb2⟩; obtain ⟨x2, y2⟩ := HX.out _ hb2; have c2 := HC.out _ h2)
    | (go_at_call 80; refine (HF.out _ h2 _).mono ?_; rintro e w3 ⟨⟨_, _, rfl⟩, rfl⟩))
  exact ⟨rfl, ⟨_, _, rfl⟩, HK.out.trans hb2⟩

set_option maxHeartbeats 1000000 in
theorem nest_bad {ns : UInt8} {l2 : List UInt8} (h : RstO w b st) (hs : st.str = 78 :: ns :: l2) (hl : st.str.length ≤ 1000000000000) (h1 : isLow ns = false) (h2 : isUp ns = false) :
    Calls Tryd.prog 122 #[.pointer (some ⟨b, 0, none⟩), .bool sep] w (Fell b w) := by
  have hlt := h.lt
  have c1 := h.str
  rw [hs] at c1
  have hp0 : 0 < (bs (78 :: ns :: l2)).size := by rw [bs_size]; simp
  have hp1 : 0 < (bs (ns :: l2)).size := by rw [bs_size]; simp
  have hlen : ¬ ((l2.length : Int) + 1 + 1 < 1) := by omega
  have hlen1 : ¬ ((l2.length : Int) + 1 < 1) := by omega
  have cb : ((78 : UInt8).toNat : Int) = 78 := rfl
  have HA := Lib.hid (adv_o (w := boxed w b sep) ((h.alloc _).alloc _) hs (by omega))
  have HF := Lib.hid (fun (W : World) (hW : RstO W b (st.on (ns :: l2))) m => fail_o hW m)
  have HC := Lib.hid (fun (W : World) (hW : RstO W b (st.on (ns :: l2))) => (show W.cell? ⟨b, 1, none⟩ = some (.string (bs (ns :: l2))) from hW.str))
  have HX := Lib.hid (fun (W : World) => boxed_cells (W := W) (sep := sep) hlt)
  have HK := Lib.hid (boxed_keep hlt sep)
  have g1 : ¬ (97 ≤ ns.toNat ∧ ns.toNat ≤ 122) := of_decide_eq_false h1
  have g2 : ¬ (65 ≤ ns.toNat ∧ ns.toNat ≤ 90) := of_decide_eq_false h2
  have g3 : (¬ 97 ≤ (ns.toNat : Int) ∧ ¬ 65 ≤ (ns.toNat : Int)) ∨ (¬ 97 ≤ (ns.toNat : Int) ∧ 65 ≤ (ns.toNat : Int) ∧ ¬ (ns.toNat : Int) ≤ 90) ∨ (97 ≤ (ns.toNat : Int) ∧ ¬ (ns.toNat : Int) ≤ 122 ∧ 65 ≤ (ns.toNat : Int) ∧ ¬ (ns.toNat : Int) ≤ 90) := by omega
  clear h hs g1 g2 h1 h2 hl
  rcases g3 with ⟨t1, t2⟩ | ⟨t1, t2, t3⟩ | ⟨t1, t2, t3, t4⟩
  all_goals
    go_enter Tryd.func122, Tryd.ntmps122
    go_wp2_with (first
      | (go_at_call 81; refine (HA.out).mono ?_; rintro e w2 ⟨rfl, h2, hb2⟩; obtain ⟨x2, y2⟩ := HX.out _ hb2; have c2 := HC.out _ h2)
      | (go_at_call 80; refine (HF.out _ h2 _).mono ?_; rintro e w3 ⟨⟨_, _, rfl⟩, rfl⟩))
    exact ⟨rfl, ⟨_, _, rfl⟩, HK.out.trans hb2⟩

set_option maxHeartbeats 1000000 in
theorem nest_fell {ns : UInt8} {l2 : List UInt8} (h : RstO w b st) (hs : st.str = 78 :: ns :: l2) (hl : st.str.length ≤ 1000000000000)
    (h1 : (97 ≤ (ns.toNat : Int) ∧ (ns.toNat : Int) ≤ 122) ∨ (¬ 97 ≤ (ns.toNat : Int) ∧ 65 ≤ (ns.toNat : Int) ∧ (ns.toNat : Int) ≤ 90))
    (hrec : ∀ W, RstO W b (st.on l2) → Below b w W → Calls Tryd.prog 122 #[.pointer (some ⟨b, 0, none⟩), .bool sep] W (Fell b W)) :
    Calls Tryd.prog 122 #[.pointer (some ⟨b, 0, none⟩), .bool sep] w (Fell b w) := by
  have hlt := h.lt
  have c1 := h.str
  rw [hs] at c1
  have hp0 : 0 < (bs (78 :: ns :: l2)).size := by rw [bs_size]; simp
  have hp1 : 0 < (bs (ns :: l2)).size := by rw [bs_size]; simp
  have hlen : ¬ ((l2.length : Int) + 1 + 1 < 1) := by omega
  have hlen1 : ¬ ((l2.length : Int) + 1 < 1) := by omega
  have cb : ((78 : UInt8).toNat : Int) = 78 := rfl
  have HA := Lib.hid (adv_o (w := boxed w b sep) ((h.alloc _).alloc _) hs (by omega))
  have HA2 := Lib.hid (fun (W : World) (hW : RstO W b (st.on (ns :: l2))) => adv_o hW rfl (by show (ns :: l2).length ≤ _; rw [hs] at hl; simp at hl ⊢; omega))
  have HC := Lib.hid (fun (W : World) (hW : RstO W b (st.on (ns :: l2))) => (show W.cell? ⟨b, 1, none⟩ = some (.string (bs (ns :: l2))) from hW.str))
  have HX := Lib.hid (fun (W : World) => boxed_cells (W := W) (sep := sep) hlt)
  have HK := Lib.hid (boxed_keep hlt sep)
  have HR := Lib.hid hrec
  clear h hs hl hrec
  rcases h1 with ⟨t1, t2⟩ | ⟨t1, t2, t3⟩
  all_goals
    go_enter Tryd.func122, Tryd.ntmps122
    go_wp2_with (first
    | (go_at_call 81; refine (HA.out).mono ?_; rintro e w2 ⟨rfl, h2, hb2⟩; obtain ⟨x2, y2⟩ := HX.out _ hb2; have c2 := HC.out _ h2; clear HA)
    | (go_at_call 81; refine (HA2.out _ h2).mono ?_; rintro e w3 ⟨rfl, h3, hb3⟩; replace hb3 := hb2.trans hb3; obtain ⟨x3, y3⟩ := HX.out _ hb3)
    | (go_at_call 122; refine (HR.out _ h3 (HK.out.trans hb3).below).mono ?_; rintro e w4 ⟨⟨_, _, rfl⟩, hb4⟩))
    exact ⟨rfl, ⟨_, _, rfl⟩, (HK.out.trans hb3).trans hb4⟩

set_option maxHeartbeats 1000000 in
theorem nest_noname {ns : UInt8} {l2 : List UInt8} (h : RstO w b st) (hs : st.str = 78 :: ns :: l2) (hl : st.str.length ≤ 1000000000000) {s1 : St}
    (h1 : (97 ≤ (ns.toNat : Int) ∧ (ns.toNat : Int) ≤ 122) ∨ (¬ 97 ≤ (ns.toNat : Int) ∧ 65 ≤ (ns.toNat : Int) ∧ (ns.toNat : Int) ≤ 90))
    (hrec : ∀ W, RstO W b (st.on l2) → Below b w W → Calls Tryd.prog 122 #[.pointer (some ⟨b, 0, none⟩), .bool sep] W (Done b W (.tuple #[]) s1))
    (hu : uIn s1.str = false) (hl1 : s1.str.length ≤ 1000000000000) (hi : identAll s1.str = none) :
    Calls Tryd.prog 122 #[.pointer (some ⟨b, 0, none⟩), .bool sep] w (Fell b w) := by
  have hlt := h.lt
  have c1 := h.str
  rw [hs] at c1
  have hp0 : 0 < (bs (78 :: ns :: l2)).size := by rw [bs_size]; simp
  have hp1 : 0 < (bs (ns :: l2)).size := by rw [bs_size]; simp
  have hlen : ¬ ((l2.length : Int) + 1 + 1 < 1) := by omega
  have hlen1 : ¬ ((l2.length : Int) + 1 < 1) := by omega
  have cb : ((78 : UInt8).toNat : Int) = 78 := rfl
  have HA := Lib.hid (adv_o (w := boxed w b sep) ((h.alloc _).alloc _) hs (by omega))
  have HA2 := Lib.hid (fun (W : World) (hW : RstO W b (st.on (ns :: l2))) => adv_o hW rfl (by show (ns :: l2).length ≤ _; rw [hs] at hl; simp at hl ⊢; omega))
  have HC := Lib.hid (fun (W : World) (hW : RstO W b (st.on (ns :: l2))) => (show W.cell? ⟨b, 1, none⟩ = some (.string (bs (ns :: l2))) from hW.str))
  have HX := Lib.hid (fun (W : World) => boxed_cells (W := W) (sep := sep) hlt)
  have HK := Lib.hid (boxed_keep hlt sep)
  have HR := Lib.hid hrec
  have HI := fun (W : World) (hW : RstO W b s1) => ident_o hW (noUIn_of hu) (by omega)
  rw [hi] at HI
  replace HI := Lib.hid HI
  clear h hs hl hrec hu hl1 hi
  rcases h1 with ⟨t1, t2⟩ | ⟨t1, t2, t3⟩
  all_goals
    go_enter Tryd.func122, Tryd.ntmps122
    go_wp2_with (first
    | (go_at_call 81; refine (HA.out).mono ?_; rintro e w2 ⟨rfl, h2, hb2⟩; obtain ⟨x2, y2⟩ := HX.out _ hb2; have c2 := HC.out _ h2; clear HA)
    | (go_at_call 81; refine (HA2.out _ h2).mono ?_; rintro e w3 ⟨rfl, h3, hb3⟩; replace hb3 := hb2.trans hb3; obtain ⟨x3, y3⟩ := HX.out _ hb3)
    | (go_at_call 122; refine (HR.out _ h3 (HK.out.trans hb3).below).mono ?_; rintro e w4 ⟨rfl, h4, hb4⟩; replace hb4 := hb3.trans hb4; obtain ⟨x4, y4⟩ := HX.out _ hb4)
    | (go_at_call 131; refine (HI.out _ h4).mono ?_; rintro e w5 ⟨⟨_, _, rfl⟩, hb5⟩))
    exact ⟨rfl, ⟨_, _, rfl⟩, (HK.out.trans hb4).trans hb5⟩

set_option maxHeartbeats 1000000 in
theorem nest_low {ns : UInt8} {l2 : List UInt8} (h : RstO w b st) (hs : st.str = 78 :: ns :: l2) (hl : st.str.length ≤ 1000000000000) {s1 : St} {d : Int} {nm rr : List UInt8}
    (t1 : 97 ≤ (ns.toNat : Int)) (t2 : (ns.toNat : Int) ≤ 122)
    (hrec : ∀ W, RstO W b (st.on l2) → Below b w W → Calls Tryd.prog 122 #[.pointer (some ⟨b, 0, none⟩), .bool sep] W (Done b W (.tuple #[]) s1))
    (hu : uIn s1.str = false) (hl1 : s1.str.length ≤ 1000000000000) (hi : identAll s1.str = some (d, nm, rr)) (hm : 0 ≤ s1.max) (ho : s1.out.length + 40 * s1.str.length ≤ 1000000000000) :
    Calls Tryd.prog 122 #[.pointer (some ⟨b, 0, none⟩), .bool sep] w (Done b w (.tuple #[]) (((s1.on rr).putm [58, 58]).putm nm)) := by
  have hlt := h.lt
  have c1 := h.str
  rw [hs] at c1
  have hp0 : 0 < (bs (78 :: ns :: l2)).size := by rw [bs_size]; simp
  have hp1 : 0 < (bs (ns :: l2)).size := by rw [bs_size]; simp
  have hlen : ¬ ((l2.length : Int) + 1 + 1 < 1) := by omega
  have hlen1 : ¬ ((l2.length : Int) + 1 < 1) := by omega
  have cb : ((78 : UInt8).toNat : Int) = 78 := rfl
  have HA := Lib.hid (adv_o (w := boxed w b sep) ((h.alloc _).alloc _) hs (by omega))
  have HA2 := Lib.hid (fun (W : World) (hW : RstO W b (st.on (ns :: l2))) => adv_o hW rfl (by show (ns :: l2).length ≤ _; rw [hs] at hl; simp at hl ⊢; omega))
  have HC := Lib.hid (fun (W : World) (hW : RstO W b (st.on (ns :: l2))) => (show W.cell? ⟨b, 1, none⟩ = some (.string (bs (ns :: l2))) from hW.str))
  have HX := Lib.hid (fun (W : World) => boxed_cells (W := W) (sep := sep) hlt)
  have HK := Lib.hid (boxed_keep hlt sep)
  have HR := Lib.hid hrec
  have HI := fun (W : World) (hW : RstO W b s1) => ident_o hW (noUIn_of hu) (by omega)
  rw [hi] at HI
  replace HI := Lib.hid HI
  have hln := identAll_len hi
  have HW1 := Lib.hid (fun (W : World) (hW : RstO W b (s1.on rr)) => write_o hW hm [58, 58] (by show s1.out.length + 2 ≤ _; omega))
  have hgr := putm_out (s1.on rr) [58, 58]
  have HW2 := Lib.hid (fun (W : World) (hW : RstO W b ((s1.on rr).putm [58, 58])) => write_o hW (by rw [putm_max]; exact hm) nm (by replace hgr : _ ≤ s1.out.length + 2 := hgr; omega))
  have t3 : 65 ≤ (ns.toNat : Int) := by omega
  have t4 : ¬ (ns.toNat : Int) ≤ 90 := by omega
  clear h hs hl hrec hu hl1 hi hm ho hln hgr
  go_enter Tryd.func122, Tryd.ntmps122
  go_wp2_with (first
    | (go_at_call 81; refine (HA.out).mono ?_; rintro e w2 ⟨rfl, h2, hb2⟩; obtain ⟨x2, y2⟩ := HX.out _ hb2; have c2 := HC.out _ h2; clear HA)
    | (go_at_call 81; refine (HA2.out _ h2).mono ?_; rintro e w3 ⟨rfl, h3, hb3⟩; replace hb3 := hb2.trans hb3; obtain ⟨x3, y3⟩ := HX.out _ hb3)
    | (go_at_call 122; refine (HR.out _ h3 (HK.out.trans hb3).below).mono ?_; rintro e w4 ⟨rfl, h4, hb4⟩; replace hb4 := hb3.trans hb4; obtain ⟨x4, y4⟩ := HX.out _ hb4)
    | (go_at_call 131; refine (HI.out _ h4).mono ?_; rintro e w5 ⟨rfl, h5, hb5⟩; replace hb5 := hb4.trans hb5; obtain ⟨x5, y5⟩ := HX.out _ hb5)
    | (go_at_call 82; refine (HW1.out _ h5).mono ?_; rintro e w6 ⟨rfl, h6, hb6⟩; replace hb6 := hb5.trans hb6; obtain ⟨x6, y6⟩ := HX.out _ hb6; clear h5)
    | (go_at_call 82; refine (HW2.out _ h6).mono ?_; rintro e w7 ⟨rfl, h7, hb7⟩; replace hb7 := hb6.trans hb7; obtain ⟨x7, y7⟩ := HX.out _ hb7; clear h6))
  go_end0
  exact ⟨rfl, h7, HK.out.trans hb7⟩

set_option maxHeartbeats 2000000 in
theorem nest_upC0 {ns : UInt8} {l2 : List UInt8} (h : RstO w b st) (hs : st.str = 78 :: ns :: l2) (hl : st.str.length ≤ 1000000000000) {s1 : St} {d : Nat} {nm rr : List UInt8} (hk : ns = 67) (hn : nm = [])
    (t1 : 65 ≤ (ns.toNat : Int)) (t2 : (ns.toNat : Int) ≤ 90) (hP : Pow w b)
    (hrec : ∀ W, RstO W b (st.on l2) → Below b w W → Calls Tryd.prog 122 #[.pointer (some ⟨b, 0, none⟩), .bool sep] W (Done b W (.tuple #[]) s1))
    (hu : uIn s1.str = false) (hl1 : s1.str.length ≤ 1000000000000) (hi : identAll s1.str = some ((d : Int), nm, rr)) (hd : d ≤ 9223372036854775807) (hsk : s1.skip = false) (hmx : s1.max = 0) (ho : s1.out.length + 40 * s1.str.length ≤ 1000000000000) :
    Calls Tryd.prog 122 #[.pointer (some ⟨b, 0, none⟩), .bool sep] w (Done b w (.tuple #[]) ((((s1.on rr).putm [58, 58, 123]).putm [99, 108, 111, 115, 117, 114, 101]).putd (35 :: (decDigits d ++ [125])))) := by
  have hlt := h.lt
  have c1 := h.str
  rw [hs] at c1
  have hp0 : 0 < (bs (78 :: ns :: l2)).size := by rw [bs_size]; simp
  have hp1 : 0 < (bs (ns :: l2)).size := by rw [bs_size]; simp
  have hlen : ¬ ((l2.length : Int) + 1 + 1 < 1) := by omega
  have hlen1 : ¬ ((l2.length : Int) + 1 < 1) := by omega
  have cb : ((78 : UInt8).toNat : Int) = 78 := rfl
  have HA := Lib.hid (adv_o (w := boxed w b sep) ((h.alloc _).alloc _) hs (by omega))
  have HA2 := Lib.hid (fun (W : World) (hW : RstO W b (st.on (ns :: l2))) => adv_o hW rfl (by show (ns :: l2).length ≤ _; rw [hs] at hl; simp at hl ⊢; omega))
  have HC := Lib.hid (fun (W : World) (hW : RstO W b (st.on (ns :: l2))) => (show W.cell? ⟨b, 1, none⟩ = some (.string (bs (ns :: l2))) from hW.str))
  have HX := Lib.hid (fun (W : World) => boxed_cells (W := W) (sep := sep) hlt)
  have HK := Lib.hid (boxed_keep hlt sep)
  have HR := Lib.hid hrec
  subst hk
  have cb2 : ((67 : UInt8).toNat : Int) = 67 := rfl
  have HI := fun (W : World) (hW : RstO W b s1) => ident_o hW (noUIn_of hu) (by omega)
  rw [hi] at HI
  replace HI := Lib.hid HI
  have hln := identAll_len hi
  have hdd := decDigits_len 18 d (by omega)
  have hm : 0 ≤ s1.max := by omega
  have q2 : (s1.on rr).out.length = s1.out.length := rfl
  have q3 : ((s1.on rr).putm [58, 58, 123]).out.length ≤ s1.out.length + 3 := putm_out _ _
  have q4 : (((s1.on rr).putm [58, 58, 123]).putm [99, 108, 111, 115, 117, 114, 101]).out.length ≤ ((s1.on rr).putm [58, 58, 123]).out.length + 7 := putm_out _ _
  have hsk5 : (((s1.on rr).putm [58, 58, 123]).putm [99, 108, 111, 115, 117, 114, 101]).skip = false ∧ (((s1.on rr).putm [58, 58, 123]).putm [99, 108, 111, 115, 117, 114, 101]).max = 0 := by
    have e1 : (s1.on rr).skip = false ∧ (s1.on rr).max = 0 := ⟨hsk, hmx⟩
    have step : ∀ (s : St) (l : List UInt8), s.skip = false ∧ s.max = 0 → (s.putm l).skip = false ∧ (s.putm l).max = 0 := fun s l hh => by rw [putm_keeps hh.1 hh.2]; exact hh
    exact step _ _ (step _ _ e1)
  have HW1 := Lib.hid (fun (W : World) (hW : RstO W b (s1.on rr)) => write_o hW hm [58, 58, 123] (by show s1.out.length + 3 ≤ _; omega))
  have HWk := Lib.hid (fun (W : World) (hW : RstO W b ((s1.on rr).putm [58, 58, 123])) => write_o hW (by rw [putm_max]; exact hm) [99, 108, 111, 115, 117, 114, 101] (by simp only [List.length_cons, List.length_nil]; omega))
  subst hn
  have HE := Lib.hid (fun (W : World) (hW : Below b w W) => fmtInt_any (w := W) (hP.keep hW (Nat.le_refl _)) d hd)
  have HB := Lib.hid (fun (W : World) (hW : RstO W b (((s1.on rr).putm [58, 58, 123]).putm [99, 108, 111, 115, 117, 114, 101])) => (show Calls Tryd.prog 62 #[.pointer (some ⟨b, 3, none⟩), .string (bs (35 :: (decDigits d ++ [125])))] W fun e w' => (∃ v, e = .returned v) ∧ RstO w' b ((((s1.on rr).putm [58, 58, 123]).putm [99, 108, 111, 115, 117, 114, 101]).putd (35 :: (decDigits d ++ [125]))) ∧ Keep b W w' from by
    obtain ⟨o, hW⟩ := hW
    refine (builderWrite_any hW (35 :: (decDigits d ++ [125])) (by simp only [List.length_cons, List.length_append, List.length_nil]; omega)).mono ?_
    rintro e w' ⟨he, hr, hk⟩
    refine ⟨he, ⟨o, ?_⟩, hk⟩
    unfold St.putd
    rw [if_neg (by rw [hsk5.1]; simp)]
    exact hr))
  have HS := Lib.hid (fun (W : World) (hW : RstO W b (((s1.on rr).putm [58, 58, 123]).putm [99, 108, 111, 115, 117, 114, 101])) => (show W.cell? ⟨b, 5, none⟩ = some (.bool false) from by rw [hW.skip, hsk5.1]))
  have a1 : ∀ W, (Op.stringOp .add ⟨#[35]⟩ (bs (decDigits d))).run Tryd.prog W = .ok (.string (bs (35 :: decDigits d))) W := add_bs [35] _ (by simp; omega)
  have a2 : ∀ W, (Op.stringOp .add (bs (35 :: decDigits d)) ⟨#[125]⟩).run Tryd.prog W = .ok (.string (bs (35 :: (decDigits d ++ [125])))) W := add_bs (35 :: decDigits d) [125] (by simp; omega)
  
  clear h hs hl hrec hu hl1 hi hm ho hln hsk hmx hP hd hdd q2 q3 q4  hsk5
  go_enter Tryd.func122, Tryd.ntmps122
  go_wp2_with (first
    | (go_at_call 81; refine (HA.out).mono ?_; rintro e w2 ⟨rfl, h2, hb2⟩; obtain ⟨x2, y2⟩ := HX.out _ hb2; have c2 := HC.out _ h2; clear HA)
    | (go_at_call 81; refine (HA2.out _ h2).mono ?_; rintro e w3 ⟨rfl, h3, hb3⟩; replace hb3 := hb2.trans hb3; obtain ⟨x3, y3⟩ := HX.out _ hb3)
    | (go_at_call 122; refine (HR.out _ h3 (HK.out.trans hb3).below).mono ?_; rintro e w4 ⟨rfl, h4, hb4⟩; replace hb4 := hb3.trans hb4; obtain ⟨x4, y4⟩ := HX.out _ hb4)
    | (go_at_call 131; refine (HI.out _ h4).mono ?_; rintro e w5 ⟨rfl, h5, hb5⟩; replace hb5 := hb4.trans hb5; obtain ⟨x5, y5⟩ := HX.out _ hb5)
    | (go_at_call 82; refine (HW1.out _ h5).mono ?_; rintro e w6 ⟨rfl, h6, hb6⟩; replace hb6 := hb5.trans hb6; obtain ⟨x6, y6⟩ := HX.out _ hb6; clear h5)
    | (go_at_call 82; refine (HWk.out _ h6).mono ?_; rintro e w9 ⟨rfl, h9, hb9⟩; replace hb9 := hb6.trans hb9; obtain ⟨x9, y9⟩ := HX.out _ hb9; clear h6; have c9 := HS.out _ h9))
  go_region_with (first
    | (go_at_call 134; refine (HE.out _ (HK.out.trans hb9).below.drew).mono ?_; rintro e w10 ⟨rfl, hb10⟩; have hlt9 := Nat.le_of_lt (RstO.lt h9); have h10 := RstO.keepB (RstO.drew h9) hb10; replace hb10 := hb9.drew.trans (Keep.of_below hb10 (Nat.le_refl _) hlt9); obtain ⟨x10, y10⟩ := HX.out _ hb10)
    | (go_at_call 62; refine (HB.out _ h10).mono ?_; rintro e w11 ⟨⟨v, rfl⟩, h11, hb11⟩; replace hb11 := hb10.trans hb11; obtain ⟨x11, y11⟩ := HX.out _ hb11))
  all_goals
    obtain ⟨q7, c7⟩ := RstO.last h11
    have f7 := RstO.free h11 7
    have H11 := Lib.hid h11
    clear h11 h10 h9
    go_wp2
    go_end0
    refine ⟨rfl, ?_, (HK.out.trans hb11).setCell (p := ⟨b, 7, none⟩) rfl _⟩
    obtain ⟨o, hr⟩ := H11.out
    exact ⟨o, hr.setLast 125⟩

set_option maxHeartbeats 2000000 in
theorem nest_upC1 {ns : UInt8} {l2 : List UInt8} (h : RstO w b st) (hs : st.str = 78 :: ns :: l2) (hl : st.str.length ≤ 1000000000000) {s1 : St} {d : Nat} {nm rr : List UInt8} (hk : ns = 67) (hn : nm ≠ [])
    (t1 : 65 ≤ (ns.toNat : Int)) (t2 : (ns.toNat : Int) ≤ 90) (hP : Pow w b)
    (hrec : ∀ W, RstO W b (st.on l2) → Below b w W → Calls Tryd.prog 122 #[.pointer (some ⟨b, 0, none⟩), .bool sep] W (Done b W (.tuple #[]) s1))
    (hu : uIn s1.str = false) (hl1 : s1.str.length ≤ 1000000000000) (hi : identAll s1.str = some ((d : Int), nm, rr)) (hd : d ≤ 9223372036854775807) (hsk : s1.skip = false) (hmx : s1.max = 0) (ho : s1.out.length + 40 * s1.str.length ≤ 1000000000000) :
    Calls Tryd.prog 122 #[.pointer (some ⟨b, 0, none⟩), .bool sep] w (Done b w (.tuple #[]) ((((((s1.on rr).putm [58, 58, 123]).putm [99, 108, 111, 115, 117, 114, 101]).putm [58]).putm nm).putd (35 :: (decDigits d ++ [125])))) := by
  have hlt := h.lt
  have c1 := h.str
  rw [hs] at c1
  have hp0 : 0 < (bs (78 :: ns :: l2)).size := by rw [bs_size]; simp
  have hp1 : 0 < (bs (ns :: l2)).size := by rw [bs_size]; simp
  have hlen : ¬ ((l2.length : Int) + 1 + 1 < 1) := by omega
  have hlen1 : ¬ ((l2.length : Int) + 1 < 1) := by omega
  have cb : ((78 : UInt8).toNat : Int) = 78 := rfl
  have HA := Lib.hid (adv_o (w := boxed w b sep) ((h.alloc _).alloc _) hs (by omega))
  have HA2 := Lib.hid (fun (W : World) (hW : RstO W b (st.on (ns :: l2))) => adv_o hW rfl (by show (ns :: l2).length ≤ _; rw [hs] at hl; simp at hl ⊢; omega))
  have HC := Lib.hid (fun (W : World) (hW : RstO W b (st.on (ns :: l2))) => (show W.cell? ⟨b, 1, none⟩ = some (.string (bs (ns :: l2))) from hW.str))
  have HX := Lib.hid (fun (W : World) => boxed_cells (W := W) (sep := sep) hlt)
  have HK := Lib.hid (boxed_keep hlt sep)
  have HR := Lib.hid hrec
  subst hk
  have cb2 : ((67 : UInt8).toNat : Int) = 67 := rfl
  have HI := fun (W : World) (hW : RstO W b s1) => ident_o hW (noUIn_of hu) (by omega)
  rw [hi] at HI
  replace HI := Lib.hid HI
  have hln := identAll_len hi
  have hdd := decDigits_len 18 d (by omega)
  have hm : 0 ≤ s1.max := by omega
  have q2 : (s1.on rr).out.length = s1.out.length := rfl
  have q3 : ((s1.on rr).putm [58, 58, 123]).out.length ≤ s1.out.length + 3 := putm_out _ _
  have q4 : (((s1.on rr).putm [58, 58, 123]).putm [99, 108, 111, 115, 117, 114, 101]).out.length ≤ ((s1.on rr).putm [58, 58, 123]).out.length + 7 := putm_out _ _
  have q5 : ((((s1.on rr).putm [58, 58, 123]).putm [99, 108, 111, 115, 117, 114, 101]).putm [58]).out.length ≤ (((s1.on rr).putm [58, 58, 123]).putm [99, 108, 111, 115, 117, 114, 101]).out.length + 1 := putm_out _ _
  have q6 : (((((s1.on rr).putm [58, 58, 123]).putm [99, 108, 111, 115, 117, 114, 101]).putm [58]).putm nm).out.length ≤ ((((s1.on rr).putm [58, 58, 123]).putm [99, 108, 111, 115, 117, 114, 101]).putm [58]).out.length + nm.length := putm_out _ _
  have hsk5 : (((((s1.on rr).putm [58, 58, 123]).putm [99, 108, 111, 115, 117, 114, 101]).putm [58]).putm nm).skip = false ∧ (((((s1.on rr).putm [58, 58, 123]).putm [99, 108, 111, 115, 117, 114, 101]).putm [58]).putm nm).max = 0 := by
    have e1 : (s1.on rr).skip = false ∧ (s1.on rr).max = 0 := ⟨hsk, hmx⟩
    have step : ∀ (s : St) (l : List UInt8), s.skip = false ∧ s.max = 0 → (s.putm l).skip = false ∧ (s.putm l).max = 0 := fun s l hh => by rw [putm_keeps hh.1 hh.2]; exact hh
    exact step _ _ (step _ _ (step _ _ (step _ _ e1)))
  have HW1 := Lib.hid (fun (W : World) (hW : RstO W b (s1.on rr)) => write_o hW hm [58, 58, 123] (by show s1.out.length + 3 ≤ _; omega))
  have HWk := Lib.hid (fun (W : World) (hW : RstO W b ((s1.on rr).putm [58, 58, 123])) => write_o hW (by rw [putm_max]; exact hm) [99, 108, 111, 115, 117, 114, 101] (by simp only [List.length_cons, List.length_nil]; omega))
  have HWc := Lib.hid (fun (W : World) (hW : RstO W b (((s1.on rr).putm [58, 58, 123]).putm [99, 108, 111, 115, 117, 114, 101])) => byte_o hW (by rw [putm_max, putm_max]; exact hm) 58 (by omega))
  have HWn := Lib.hid (fun (W : World) (hW : RstO W b ((((s1.on rr).putm [58, 58, 123]).putm [99, 108, 111, 115, 117, 114, 101]).putm [58])) => write_o hW (by rw [putm_max, putm_max, putm_max]; exact hm) nm (by omega))
  have hnl : (0 : Int) < (nm.length : Int) := by have := List.length_pos_iff.2 hn; omega
  have HE := Lib.hid (fun (W : World) (hW : Below b w W) => fmtInt_any (w := W) (hP.keep hW (Nat.le_refl _)) d hd)
  have HB := Lib.hid (fun (W : World) (hW : RstO W b (((((s1.on rr).putm [58, 58, 123]).putm [99, 108, 111, 115, 117, 114, 101]).putm [58]).putm nm)) => (show Calls Tryd.prog 62 #[.pointer (some ⟨b, 3, none⟩), .string (bs (35 :: (decDigits d ++ [125])))] W fun e w' => (∃ v, e = .returned v) ∧ RstO w' b ((((((s1.on rr).putm [58, 58, 123]).putm [99, 108, 111, 115, 117, 114, 101]).putm [58]).putm nm).putd (35 :: (decDigits d ++ [125]))) ∧ Keep b W w' from by
    obtain ⟨o, hW⟩ := hW
    refine (builderWrite_any hW (35 :: (decDigits d ++ [125])) (by simp only [List.length_cons, List.length_append, List.length_nil]; omega)).mono ?_
    rintro e w' ⟨he, hr, hk⟩
    refine ⟨he, ⟨o, ?_⟩, hk⟩
    unfold St.putd
    rw [if_neg (by rw [hsk5.1]; simp)]
    exact hr))
  have HS := Lib.hid (fun (W : World) (hW : RstO W b (((((s1.on rr).putm [58, 58, 123]).putm [99, 108, 111, 115, 117, 114, 101]).putm [58]).putm nm)) => (show W.cell? ⟨b, 5, none⟩ = some (.bool false) from by rw [hW.skip, hsk5.1]))
  have a1 : ∀ W, (Op.stringOp .add ⟨#[35]⟩ (bs (decDigits d))).run Tryd.prog W = .ok (.string (bs (35 :: decDigits d))) W := add_bs [35] _ (by simp; omega)
  have a2 : ∀ W, (Op.stringOp .add (bs (35 :: decDigits d)) ⟨#[125]⟩).run Tryd.prog W = .ok (.string (bs (35 :: (decDigits d ++ [125])))) W := add_bs (35 :: decDigits d) [125] (by simp; omega)
  
  clear h hs hl hrec hu hl1 hi hm ho hln hsk hmx hP hd hdd q2 q3 q4 q5 q6 hsk5 hn
  go_enter Tryd.func122, Tryd.ntmps122
  go_wp2_with (first
    | (go_at_call 81; refine (HA.out).mono ?_; rintro e w2 ⟨rfl, h2, hb2⟩; obtain ⟨x2, y2⟩ := HX.out _ hb2; have c2 := HC.out _ h2; clear HA)
    | (go_at_call 81; refine (HA2.out _ h2).mono ?_; rintro e w3 ⟨rfl, h3, hb3⟩; replace hb3 := hb2.trans hb3; obtain ⟨x3, y3⟩ := HX.out _ hb3)
    | (go_at_call 122; refine (HR.out _ h3 (HK.out.trans hb3).below).mono ?_; rintro e w4 ⟨rfl, h4, hb4⟩; replace hb4 := hb3.trans hb4; obtain ⟨x4, y4⟩ := HX.out _ hb4)
    | (go_at_call 131; refine (HI.out _ h4).mono ?_; rintro e w5 ⟨rfl, h5, hb5⟩; replace hb5 := hb4.trans hb5; obtain ⟨x5, y5⟩ := HX.out _ hb5)
    | (go_at_call 82; refine (HW1.out _ h5).mono ?_; rintro e w6 ⟨rfl, h6, hb6⟩; replace hb6 := hb5.trans hb6; obtain ⟨x6, y6⟩ := HX.out _ hb6; clear h5)
    | (go_at_call 82; refine (HWk.out _ h6).mono ?_; rintro e w7 ⟨rfl, h7, hb7⟩; replace hb7 := hb6.trans hb7; obtain ⟨x7, y7⟩ := HX.out _ hb7; clear h6)
    | (go_at_call 95; refine (HWc.out _ h7).mono ?_; rintro e w8 ⟨rfl, h8, hb8⟩; replace hb8 := hb7.trans hb8; obtain ⟨x8, y8⟩ := HX.out _ hb8; clear h7)
    | (go_at_call 82; refine (HWn.out _ h8).mono ?_; rintro e w9 ⟨rfl, h9, hb9⟩; replace hb9 := hb8.trans hb9; obtain ⟨x9, y9⟩ := HX.out _ hb9; clear h8; have c9 := HS.out _ h9))
  go_region_with (first
    | (go_at_call 134; refine (HE.out _ (HK.out.trans hb9).below.drew).mono ?_; rintro e w10 ⟨rfl, hb10⟩; have hlt9 := Nat.le_of_lt (RstO.lt h9); have h10 := RstO.keepB (RstO.drew h9) hb10; replace hb10 := hb9.drew.trans (Keep.of_below hb10 (Nat.le_refl _) hlt9); obtain ⟨x10, y10⟩ := HX.out _ hb10)
    | (go_at_call 62; refine (HB.out _ h10).mono ?_; rintro e w11 ⟨⟨v, rfl⟩, h11, hb11⟩; replace hb11 := hb10.trans hb11; obtain ⟨x11, y11⟩ := HX.out _ hb11))
  all_goals
    obtain ⟨q7, c7⟩ := RstO.last h11
    have f7 := RstO.free h11 7
    have H11 := Lib.hid h11
    clear h11 h10 h9
    go_wp2
    go_end0
    refine ⟨rfl, ?_, (HK.out.trans hb11).setCell (p := ⟨b, 7, none⟩) rfl _⟩
    obtain ⟨o, hr⟩ := H11.out
    exact ⟨o, hr.setLast 125⟩

set_option maxHeartbeats 2000000 in
theorem nest_upS0 {ns : UInt8} {l2 : List UInt8} (h : RstO w b st) (hs : st.str = 78 :: ns :: l2) (hl : st.str.length ≤ 1000000000000) {s1 : St} {d : Nat} {nm rr : List UInt8} (hk : ns = 83) (hn : nm = [])
    (t1 : 65 ≤ (ns.toNat : Int)) (t2 : (ns.toNat : Int) ≤ 90) (hP : Pow w b)
    (hrec : ∀ W, RstO W b (st.on l2) → Below b w W → Calls Tryd.prog 122 #[.pointer (some ⟨b, 0, none⟩), .bool sep] W (Done b W (.tuple #[]) s1))
    (hu : uIn s1.str = false) (hl1 : s1.str.length ≤ 1000000000000) (hi : identAll s1.str = some ((d : Int), nm, rr)) (hd : d ≤ 9223372036854775807) (hsk : s1.skip = false) (hmx : s1.max = 0) (ho : s1.out.length + 40 * s1.str.length ≤ 1000000000000) :
    Calls Tryd.prog 122 #[.pointer (some ⟨b, 0, none⟩), .bool sep] w (Done b w (.tuple #[]) ((((s1.on rr).putm [58, 58, 123]).putm [115, 104, 105, 109]).putd (35 :: (decDigits d ++ [125])))) := by
  have hlt := h.lt
  have c1 := h.str
  rw [hs] at c1
  have hp0 : 0 < (bs (78 :: ns :: l2)).size := by rw [bs_size]; simp
  have hp1 : 0 < (bs (ns :: l2)).size := by rw [bs_size]; simp
  have hlen : ¬ ((l2.length : Int) + 1 + 1 < 1) := by omega
  have hlen1 : ¬ ((l2.length : Int) + 1 < 1) := by omega
  have cb : ((78 : UInt8).toNat : Int) = 78 := rfl
  have HA := Lib.hid (adv_o (w := boxed w b sep) ((h.alloc _).alloc _) hs (by omega))
  have HA2 := Lib.hid (fun (W : World) (hW : RstO W b (st.on (ns :: l2))) => adv_o hW rfl (by show (ns :: l2).length ≤ _; rw [hs] at hl; simp at hl ⊢; omega))
  have HC := Lib.hid (fun (W : World) (hW : RstO W b (st.on (ns :: l2))) => (show W.cell? ⟨b, 1, none⟩ = some (.string (bs (ns :: l2))) from hW.str))
  have HX := Lib.hid (fun (W : World) => boxed_cells (W := W) (sep := sep) hlt)
  have HK := Lib.hid (boxed_keep hlt sep)
  have HR := Lib.hid hrec
  subst hk
  have cb2 : ((83 : UInt8).toNat : Int) = 83 := rfl
  have HI := fun (W : World) (hW : RstO W b s1) => ident_o hW (noUIn_of hu) (by omega)
  rw [hi] at HI
  replace HI := Lib.hid HI
  have hln := identAll_len hi
  have hdd := decDigits_len 18 d (by omega)
  have hm : 0 ≤ s1.max := by omega
  have q2 : (s1.on rr).out.length = s1.out.length := rfl
  have q3 : ((s1.on rr).putm [58, 58, 123]).out.length ≤ s1.out.length + 3 := putm_out _ _
  have q4 : (((s1.on rr).putm [58, 58, 123]).putm [115, 104, 105, 109]).out.length ≤ ((s1.on rr).putm [58, 58, 123]).out.length + 4 := putm_out _ _
  have hsk5 : (((s1.on rr).putm [58, 58, 123]).putm [115, 104, 105, 109]).skip = false ∧ (((s1.on rr).putm [58, 58, 123]).putm [115, 104, 105, 109]).max = 0 := by
    have e1 : (s1.on rr).skip = false ∧ (s1.on rr).max = 0 := ⟨hsk, hmx⟩
    have step : ∀ (s : St) (l : List UInt8), s.skip = false ∧ s.max = 0 → (s.putm l).skip = false ∧ (s.putm l).max = 0 := fun s l hh => by rw [putm_keeps hh.1 hh.2]; exact hh
    exact step _ _ (step _ _ e1)
  have HW1 := Lib.hid (fun (W : World) (hW : RstO W b (s1.on rr)) => write_o hW hm [58, 58, 123] (by show s1.out.length + 3 ≤ _; omega))
  have HWk := Lib.hid (fun (W : World) (hW : RstO W b ((s1.on rr).putm [58, 58, 123])) => write_o hW (by rw [putm_max]; exact hm) [115, 104, 105, 109] (by simp only [List.length_cons, List.length_nil]; omega))
  subst hn
  have HE := Lib.hid (fun (W : World) (hW : Below b w W) => fmtInt_any (w := W) (hP.keep hW (Nat.le_refl _)) d hd)
  have HB := Lib.hid (fun (W : World) (hW : RstO W b (((s1.on rr).putm [58, 58, 123]).putm [115, 104, 105, 109])) => (show Calls Tryd.prog 62 #[.pointer (some ⟨b, 3, none⟩), .string (bs (35 :: (decDigits d ++ [125])))] W fun e w' => (∃ v, e = .returned v) ∧ RstO w' b ((((s1.on rr).putm [58, 58, 123]).putm [115, 104, 105, 109]).putd (35 :: (decDigits d ++ [125]))) ∧ Keep b W w' from by
    obtain ⟨o, hW⟩ := hW
    refine (builderWrite_any hW (35 :: (decDigits d ++ [125])) (by simp only [List.length_cons, List.length_append, List.length_nil]; omega)).mono ?_
    rintro e w' ⟨he, hr, hk⟩
    refine ⟨he, ⟨o, ?_⟩, hk⟩
    unfold St.putd
    rw [if_neg (by rw [hsk5.1]; simp)]
    exact hr))
  have HS := Lib.hid (fun (W : World) (hW : RstO W b (((s1.on rr).putm [58, 58, 123]).putm [115, 104, 105, 109])) => (show W.cell? ⟨b, 5, none⟩ = some (.bool false) from by rw [hW.skip, hsk5.1]))
  have a1 : ∀ W, (Op.stringOp .add ⟨#[35]⟩ (bs (decDigits d))).run Tryd.prog W = .ok (.string (bs (35 :: decDigits d))) W := add_bs [35] _ (by simp; omega)
  have a2 : ∀ W, (Op.stringOp .add (bs (35 :: decDigits d)) ⟨#[125]⟩).run Tryd.prog W = .ok (.string (bs (35 :: (decDigits d ++ [125])))) W := add_bs (35 :: decDigits d) [125] (by simp; omega)
  
  clear h hs hl hrec hu hl1 hi hm ho hln hsk hmx hP hd hdd q2 q3 q4  hsk5
  go_enter Tryd.func122, Tryd.ntmps122
  go_wp2_with (first
    | (go_at_call 81; refine (HA.out).mono ?_; rintro e w2 ⟨rfl, h2, hb2⟩; obtain ⟨x2, y2⟩ := HX.out _ hb2; have c2 := HC.out _ h2; clear HA)
    | (go_at_call 81; refine (HA2.out _ h2).mono ?_; rintro e w3 ⟨rfl, h3, hb3⟩; replace hb3 := hb2.trans hb3; obtain ⟨x3, y3⟩ := HX.out _ hb3)
    | (go_at_call 122; refine (HR.out _ h3 (HK.out.trans hb3).below).mono ?_; rintro e w4 ⟨rfl, h4, hb4⟩; replace hb4 := hb3.trans hb4; obtain ⟨x4, y4⟩ := HX.out _ hb4)
    | (go_at_call 131; refine (HI.out _ h4).mono ?_; rintro e w5 ⟨rfl, h5, hb5⟩; replace hb5 := hb4.trans hb5; obtain ⟨x5, y5⟩ := HX.out _ hb5)
    | (go_at_call 82; refine (HW1.out _ h5).mono ?_; rintro e w6 ⟨rfl, h6, hb6⟩; replace hb6 := hb5.trans hb6; obtain ⟨x6, y6⟩ := HX.out _ hb6; clear h5)
    | (go_at_call 82; refine (HWk.out _ h6).mono ?_; rintro e w9 ⟨rfl, h9, hb9⟩; replace hb9 := hb6.trans hb9; obtain ⟨x9, y9⟩ := HX.out _ hb9; clear h6; have c9 := HS.out _ h9))
  go_region_with (first
    | (go_at_call 134; refine (HE.out _ (HK.out.trans hb9).below.drew).mono ?_; rintro e w10 ⟨rfl, hb10⟩; have hlt9 := Nat.le_of_lt (RstO.lt h9); have h10 := RstO.keepB (RstO.drew h9) hb10; replace hb10 := hb9.drew.trans (Keep.of_below hb10 (Nat.le_refl _) hlt9); obtain ⟨x10, y10⟩ := HX.out _ hb10)
    | (go_at_call 62; refine (HB.out _ h10).mono ?_; rintro e w11 ⟨⟨v, rfl⟩, h11, hb11⟩; replace hb11 := hb10.trans hb11; obtain ⟨x11, y11⟩ := HX.out _ hb11))
  all_goals
    obtain ⟨q7, c7⟩ := RstO.last h11
    have f7 := RstO.free h11 7
    have H11 := Lib.hid h11
    clear h11 h10 h9
    go_wp2
    go_end0
    refine ⟨rfl, ?_, (HK.out.trans hb11).setCell (p := ⟨b, 7, none⟩) rfl _⟩
    obtain ⟨o, hr⟩ := H11.out
    exact ⟨o, hr.setLast 125⟩

set_option maxHeartbeats 2000000 in
theorem nest_upS1 {ns : UInt8} {l2 : List UInt8} (h : RstO w b st) (hs : st.str = 78 :: ns :: l2) (hl : st.str.length ≤ 1000000000000) {s1 : St} {d : Nat} {nm rr : List UInt8} (hk : ns = 83) (hn : nm ≠ [])
    (t1 : 65 ≤ (ns.toNat : Int)) (t2 : (ns.toNat : Int) ≤ 90) (hP : Pow w b)
    (hrec : ∀ W, RstO W b (st.on l2) → Below b w W → Calls Tryd.prog 122 #[.pointer (some ⟨b, 0, none⟩), .bool sep] W (Done b W (.tuple #[]) s1))
    (hu : uIn s1.str = false) (hl1 : s1.str.length ≤ 1000000000000) (hi : identAll s1.str = some ((d : Int), nm, rr)) (hd : d ≤ 9223372036854775807) (hsk : s1.skip = false) (hmx : s1.max = 0) (ho : s1.out.length + 40 * s1.str.length ≤ 1000000000000) :
    Calls Tryd.prog 122 #[.pointer (some ⟨b, 0, none⟩), .bool sep] w (Done b w (.tuple #[]) ((((((s1.on rr).putm [58, 58, 123]).putm [115, 104, 105, 109]).putm [58]).putm nm).putd (35 :: (decDigits d ++ [125])))) := by
  have hlt := h.lt
  have c1 := h.str
  rw [hs] at c1
  have hp0 : 0 < (bs (78 :: ns :: l2)).size := by rw [bs_size]; simp
  have hp1 : 0 < (bs (ns :: l2)).size := by rw [bs_size]; simp
  have hlen : ¬ ((l2.length : Int) + 1 + 1 < 1) := by omega
  have hlen1 : ¬ ((l2.length : Int) + 1 < 1) := by omega
  have cb : ((78 : UInt8).toNat : Int) = 78 := rfl
  have HA := Lib.hid (adv_o (w := boxed w b sep) ((h.alloc _).alloc _) hs (by omega))
  have HA2 := Lib.hid (fun (W : World) (hW : RstO W b (st.on (ns :: l2))) => adv_o hW rfl (by show (ns :: l2).length ≤ _; rw [hs] at hl; simp at hl ⊢; omega))
  have HC := Lib.hid (fun (W : World) (hW : RstO W b (st.on (ns :: l2))) => (show W.cell? ⟨b, 1, none⟩ = some (.string (bs (ns :: l2))) from hW.str))
  have HX := Lib.hid (fun (W : World) => boxed_cells (W := W) (sep := sep) hlt)
  have HK := Lib.hid (boxed_keep hlt sep)
  have HR := Lib.hid hrec
  subst hk
  have cb2 : ((83 : UInt8).toNat : Int) = 83 := rfl
  have HI := fun (W : World) (hW : RstO W b s1) => ident_o hW (noUIn_of hu) (by omega)
  rw [hi] at HI
  replace HI := Lib.hid HI
  have hln := identAll_len hi
  have hdd := decDigits_len 18 d (by omega)
  have hm : 0 ≤ s1.max := by omega
  have q2 : (s1.on rr).out.length = s1.out.length := rfl
  have q3 : ((s1.on rr).putm [58, 58, 123]).out.length ≤ s1.out.length + 3 := putm_out _ _
  have q4 : (((s1.on rr).putm [58, 58, 123]).putm [115, 104, 105, 109]).out.length ≤ ((s1.on rr).putm [58, 58, 123]).out.length + 4 := putm_out _ _
  have q5 : ((((s1.on rr).putm [58, 58, 123]).putm [115, 104, 105, 109]).putm [58]).out.length ≤ (((s1.on rr).putm [58, 58, 123]).putm [115, 104, 105, 109]).out.length + 1 := putm_out _ _
  have q6 : (((((s1.on rr).putm [58, 58, 123]).putm [115, 104, 105, 109]).putm [58]).putm nm).out.length ≤ ((((s1.on rr).putm [58, 58, 123]).putm [115, 104, 105, 109]).putm [58]).out.length + nm.length := putm_out _ _
  have hsk5 : (((((s1.on rr).putm [58, 58, 123]).putm [115, 104, 105, 109]).putm [58]).putm nm).skip = false ∧ (((((s1.on rr).putm [58, 58, 123]).putm [115, 104, 105, 109]).putm [58]).putm nm).max = 0 := by
    have e1 : (s1.on rr).skip = false ∧ (s1.on rr).max = 0 := ⟨hsk, hmx⟩
    have step : ∀ (s : St) (l : List UInt8), s.skip = false ∧ s.max = 0 → (s.putm l).skip = false ∧ (s.putm l).max = 0 := fun s l hh => by rw [putm_keeps hh.1 hh.2]; exact hh
    exact step _ _ (step _ _ (step _ _ (step _ _ e1)))
  have HW1 := Lib.hid (fun (W : World) (hW : RstO W b (s1.on rr)) => write_o hW hm [58, 58, 123] (by show s1.out.length + 3 ≤ _; omega))
  have HWk := Lib.hid (fun (W : World) (hW : RstO W b ((s1.on rr).putm [58, 58, 123])) => write_o hW (by rw [putm_max]; exact hm) [115, 104, 105, 109] (by simp only [List.length_cons, List.length_nil]; omega))
  have HWc := Lib.hid (fun (W : World) (hW : RstO W b (((s1.on rr).putm [58, 58, 123]).putm [115, 104, 105, 109])) => byte_o hW (by rw [putm_max, putm_max]; exact hm) 58 (by omega))
  have HWn := Lib.hid (fun (W : World) (hW : RstO W b ((((s1.on rr).putm [58, 58, 123]).putm [115, 104, 105, 109]).putm [58])) => write_o hW (by rw [putm_max, putm_max, putm_max]; exact hm) nm (by omega))
  have hnl : (0 : Int) < (nm.length : Int) := by have := List.length_pos_iff.2 hn; omega
  have HE := Lib.hid (fun (W : World) (hW : Below b w W) => fmtInt_any (w := W) (hP.keep hW (Nat.le_refl _)) d hd)
  have HB := Lib.hid (fun (W : World) (hW : RstO W b (((((s1.on rr).putm [58, 58, 123]).putm [115, 104, 105, 109]).putm [58]).putm nm)) => (show Calls Tryd.prog 62 #[.pointer (some ⟨b, 3, none⟩), .string (bs (35 :: (decDigits d ++ [125])))] W fun e w' => (∃ v, e = .returned v) ∧ RstO w' b ((((((s1.on rr).putm [58, 58, 123]).putm [115, 104, 105, 109]).putm [58]).putm nm).putd (35 :: (decDigits d ++ [125]))) ∧ Keep b W w' from by
    obtain ⟨o, hW⟩ := hW
    refine (builderWrite_any hW (35 :: (decDigits d ++ [125])) (by simp only [List.length_cons, List.length_append, List.length_nil]; omega)).mono ?_
    rintro e w' ⟨he, hr, hk⟩
    refine ⟨he, ⟨o, ?_⟩, hk⟩
    unfold St.putd
    rw [if_neg (by rw [hsk5.1]; simp)]
    exact hr))
  have HS := Lib.hid (fun (W : World) (hW : RstO W b (((((s1.on rr).putm [58, 58, 123]).putm [115, 104, 105, 109]).putm [58]).putm nm)) => (show W.cell? ⟨b, 5, none⟩ = some (.bool false) from by rw [hW.skip, hsk5.1]))
  have a1 : ∀ W, (Op.stringOp .add ⟨#[35]⟩ (bs (decDigits d))).run Tryd.prog W = .ok (.string (bs (35 :: decDigits d))) W := add_bs [35] _ (by simp; omega)
  have a2 : ∀ W, (Op.stringOp .add (bs (35 :: decDigits d)) ⟨#[125]⟩).run Tryd.prog W = .ok (.string (bs (35 :: (decDigits d ++ [125])))) W := add_bs (35 :: decDigits d) [125] (by simp; omega)
  
  clear h hs hl hrec hu hl1 hi hm ho hln hsk hmx hP hd hdd q2 q3 q4 q5 q6 hsk5 hn
  go_enter Tryd.func122, Tryd.ntmps122
  go_wp2_with (first
    | (go_at_call 81; refine (HA.out).mono ?_; rintro e w2 ⟨rfl, h2, hb2⟩; obtain ⟨x2, y2⟩ := HX.out _ hb2; have c2 := HC.out _ h2; clear HA)
    | (go_at_call 81; refine (HA2.out _ h2).mono ?_; rintro e w3 ⟨rfl, h3, hb3⟩; replace hb3 := hb2.trans hb3; obtain ⟨x3, y3⟩ := HX.out _ hb3)
    | (go_at_call 122; refine (HR.out _ h3 (HK.out.trans hb3).below).mono ?_; rintro e w4 ⟨rfl, h4, hb4⟩; replace hb4 := hb3.trans hb4; obtain ⟨x4, y4⟩ := HX.out _ hb4)
    | (go_at_call 131; refine (HI.out _ h4).mono ?_; rintro e w5 ⟨rfl, h5, hb5⟩; replace hb5 := hb4.trans hb5; obtain ⟨x5, y5⟩ := HX.out _ hb5)
    | (go_at_call 82; refine (HW1.out _ h5).mono ?_; rintro e w6 ⟨rfl, h6, hb6⟩; replace hb6 := hb5.trans hb6; obtain ⟨x6, y6⟩ := HX.out _ hb6; clear h5)
    | (go_at_call 82; refine (HWk.out _ h6).mono ?_; rintro e w7 ⟨rfl, h7, hb7⟩; replace hb7 := hb6.trans hb7; obtain ⟨x7, y7⟩ := HX.out _ hb7; clear h6)
    | (go_at_call 95; refine (HWc.out _ h7).mono ?_; rintro e w8 ⟨rfl, h8, hb8⟩; replace hb8 := hb7.trans hb8; obtain ⟨x8, y8⟩ := HX.out _ hb8; clear h7)
    | (go_at_call 82; refine (HWn.out _ h8).mono ?_; rintro e w9 ⟨rfl, h9, hb9⟩; replace hb9 := hb8.trans hb9; obtain ⟨x9, y9⟩ := HX.out _ hb9; clear h8; have c9 := HS.out _ h9))
  go_region_with (first
    | (go_at_call 134; refine (HE.out _ (HK.out.trans hb9).below.drew).mono ?_; rintro e w10 ⟨rfl, hb10⟩; have hlt9 := Nat.le_of_lt (RstO.lt h9); have h10 := RstO.keepB (RstO.drew h9) hb10; replace hb10 := hb9.drew.trans (Keep.of_below hb10 (Nat.le_refl _) hlt9); obtain ⟨x10, y10⟩ := HX.out _ hb10)
    | (go_at_call 62; refine (HB.out _ h10).mono ?_; rintro e w11 ⟨⟨v, rfl⟩, h11, hb11⟩; replace hb11 := hb10.trans hb11; obtain ⟨x11, y11⟩ := HX.out _ hb11))
  all_goals
    obtain ⟨q7, c7⟩ := RstO.last h11
    have f7 := RstO.free h11 7
    have H11 := Lib.hid h11
    clear h11 h10 h9
    go_wp2
    go_end0
    refine ⟨rfl, ?_, (HK.out.trans hb11).setCell (p := ⟨b, 7, none⟩) rfl _⟩
    obtain ⟨o, hr⟩ := H11.out
    exact ⟨o, hr.setLast 125⟩

set_option maxHeartbeats 2000000 in
theorem nest_upO0 {ns : UInt8} {l2 : List UInt8} (h : RstO w b st) (hs : st.str = 78 :: ns :: l2) (hl : st.str.length ≤ 1000000000000) {s1 : St} {d : Nat} {nm rr : List UInt8} (hk : ns ≠ 67 ∧ ns ≠ 83) (hn : nm = [])
    (t1 : 65 ≤ (ns.toNat : Int)) (t2 : (ns.toNat : Int) ≤ 90) (hP : Pow w b)
    (hrec : ∀ W, RstO W b (st.on l2) → Below b w W → Calls Tryd.prog 122 #[.pointer (some ⟨b, 0, none⟩), .bool sep] W (Done b W (.tuple #[]) s1))
    (hu : uIn s1.str = false) (hl1 : s1.str.length ≤ 1000000000000) (hi : identAll s1.str = some ((d : Int), nm, rr)) (hd : d ≤ 9223372036854775807) (hsk : s1.skip = false) (hmx : s1.max = 0) (ho : s1.out.length + 40 * s1.str.length ≤ 1000000000000) :
    Calls Tryd.prog 122 #[.pointer (some ⟨b, 0, none⟩), .bool sep] w (Done b w (.tuple #[]) ((((s1.on rr).putm [58, 58, 123]).putm [ns]).putd (35 :: (decDigits d ++ [125])))) := by
  have hlt := h.lt
  have c1 := h.str
  rw [hs] at c1
  have hp0 : 0 < (bs (78 :: ns :: l2)).size := by rw [bs_size]; simp
  have hp1 : 0 < (bs (ns :: l2)).size := by rw [bs_size]; simp
  have hlen : ¬ ((l2.length : Int) + 1 + 1 < 1) := by omega
  have hlen1 : ¬ ((l2.length : Int) + 1 < 1) := by omega
  have cb : ((78 : UInt8).toNat : Int) = 78 := rfl
  have HA := Lib.hid (adv_o (w := boxed w b sep) ((h.alloc _).alloc _) hs (by omega))
  have HA2 := Lib.hid (fun (W : World) (hW : RstO W b (st.on (ns :: l2))) => adv_o hW rfl (by show (ns :: l2).length ≤ _; rw [hs] at hl; simp at hl ⊢; omega))
  have HC := Lib.hid (fun (W : World) (hW : RstO W b (st.on (ns :: l2))) => (show W.cell? ⟨b, 1, none⟩ = some (.string (bs (ns :: l2))) from hW.str))
  have HX := Lib.hid (fun (W : World) => boxed_cells (W := W) (sep := sep) hlt)
  have HK := Lib.hid (boxed_keep hlt sep)
  have HR := Lib.hid hrec
  have k1 : ns.toNat ≠ 67 := fun e => hk.1 (UInt8.toNat_inj.1 e)
  have k2 : ns.toNat ≠ 83 := fun e => hk.2 (UInt8.toNat_inj.1 e)
  have k3 : ((ns.toNat : Int) == 67) = false := by simp; omega
  have k4 : ((ns.toNat : Int) == 83) = false := by simp; omega
  clear hk k1 k2
  have HI := fun (W : World) (hW : RstO W b s1) => ident_o hW (noUIn_of hu) (by omega)
  rw [hi] at HI
  replace HI := Lib.hid HI
  have hln := identAll_len hi
  have hdd := decDigits_len 18 d (by omega)
  have hm : 0 ≤ s1.max := by omega
  have q2 : (s1.on rr).out.length = s1.out.length := rfl
  have q3 : ((s1.on rr).putm [58, 58, 123]).out.length ≤ s1.out.length + 3 := putm_out _ _
  have q4 : (((s1.on rr).putm [58, 58, 123]).putm [ns]).out.length ≤ ((s1.on rr).putm [58, 58, 123]).out.length + 1 := putm_out _ _
  have hsk5 : (((s1.on rr).putm [58, 58, 123]).putm [ns]).skip = false ∧ (((s1.on rr).putm [58, 58, 123]).putm [ns]).max = 0 := by
    have e1 : (s1.on rr).skip = false ∧ (s1.on rr).max = 0 := ⟨hsk, hmx⟩
    have step : ∀ (s : St) (l : List UInt8), s.skip = false ∧ s.max = 0 → (s.putm l).skip = false ∧ (s.putm l).max = 0 := fun s l hh => by rw [putm_keeps hh.1 hh.2]; exact hh
    exact step _ _ (step _ _ e1)
  have HW1 := Lib.hid (fun (W : World) (hW : RstO W b (s1.on rr)) => write_o hW hm [58, 58, 123] (by show s1.out.length + 3 ≤ _; omega))
  have HWk := Lib.hid (fun (W : World) (hW : RstO W b ((s1.on rr).putm [58, 58, 123])) => byte_o hW (by rw [putm_max]; exact hm) ns (by omega))
  subst hn
  have HE := Lib.hid (fun (W : World) (hW : Below b w W) => fmtInt_any (w := W) (hP.keep hW (Nat.le_refl _)) d hd)
  have HB := Lib.hid (fun (W : World) (hW : RstO W b (((s1.on rr).putm [58, 58, 123]).putm [ns])) => (show Calls Tryd.prog 62 #[.pointer (some ⟨b, 3, none⟩), .string (bs (35 :: (decDigits d ++ [125])))] W fun e w' => (∃ v, e = .returned v) ∧ RstO w' b ((((s1.on rr).putm [58, 58, 123]).putm [ns]).putd (35 :: (decDigits d ++ [125]))) ∧ Keep b W w' from by
    obtain ⟨o, hW⟩ := hW
    refine (builderWrite_any hW (35 :: (decDigits d ++ [125])) (by simp only [List.length_cons, List.length_append, List.length_nil]; omega)).mono ?_
    rintro e w' ⟨he, hr, hk⟩
    refine ⟨he, ⟨o, ?_⟩, hk⟩
    unfold St.putd
    rw [if_neg (by rw [hsk5.1]; simp)]
    exact hr))
  have HS := Lib.hid (fun (W : World) (hW : RstO W b (((s1.on rr).putm [58, 58, 123]).putm [ns])) => (show W.cell? ⟨b, 5, none⟩ = some (.bool false) from by rw [hW.skip, hsk5.1]))
  have a1 : ∀ W, (Op.stringOp .add ⟨#[35]⟩ (bs (decDigits d))).run Tryd.prog W = .ok (.string (bs (35 :: decDigits d))) W := add_bs [35] _ (by simp; omega)
  have a2 : ∀ W, (Op.stringOp .add (bs (35 :: decDigits d)) ⟨#[125]⟩).run Tryd.prog W = .ok (.string (bs (35 :: (decDigits d ++ [125])))) W := add_bs (35 :: decDigits d) [125] (by simp; omega)
  have t3 : ¬ 97 ≤ (ns.toNat : Int) := by omega
  clear h hs hl hrec hu hl1 hi hm ho hln hsk hmx hP hd hdd q2 q3 q4  hsk5
  go_enter Tryd.func122, Tryd.ntmps122
  go_wp2_with (first
    | (go_at_call 81; refine (HA.out).mono ?_; rintro e w2 ⟨rfl, h2, hb2⟩; obtain ⟨x2, y2⟩ := HX.out _ hb2; have c2 := HC.out _ h2; clear HA)
    | (go_at_call 81; refine (HA2.out _ h2).mono ?_; rintro e w3 ⟨rfl, h3, hb3⟩; replace hb3 := hb2.trans hb3; obtain ⟨x3, y3⟩ := HX.out _ hb3)
    | (go_at_call 122; refine (HR.out _ h3 (HK.out.trans hb3).below).mono ?_; rintro e w4 ⟨rfl, h4, hb4⟩; replace hb4 := hb3.trans hb4; obtain ⟨x4, y4⟩ := HX.out _ hb4)
    | (go_at_call 131; refine (HI.out _ h4).mono ?_; rintro e w5 ⟨rfl, h5, hb5⟩; replace hb5 := hb4.trans hb5; obtain ⟨x5, y5⟩ := HX.out _ hb5)
    | (go_at_call 82; refine (HW1.out _ h5).mono ?_; rintro e w6 ⟨rfl, h6, hb6⟩; replace hb6 := hb5.trans hb6; obtain ⟨x6, y6⟩ := HX.out _ hb6; clear h5)
    | (go_at_call 95; refine (HWk.out _ h6).mono ?_; rintro e w9 ⟨rfl, h9, hb9⟩; replace hb9 := hb6.trans hb9; obtain ⟨x9, y9⟩ := HX.out _ hb9; clear h6; have c9 := HS.out _ h9))
  go_region_with (first
    | (go_at_call 134; refine (HE.out _ (HK.out.trans hb9).below.drew).mono ?_; rintro e w10 ⟨rfl, hb10⟩; have hlt9 := Nat.le_of_lt (RstO.lt h9); have h10 := RstO.keepB (RstO.drew h9) hb10; replace hb10 := hb9.drew.trans (Keep.of_below hb10 (Nat.le_refl _) hlt9); obtain ⟨x10, y10⟩ := HX.out _ hb10)
    | (go_at_call 62; refine (HB.out _ h10).mono ?_; rintro e w11 ⟨⟨v, rfl⟩, h11, hb11⟩; replace hb11 := hb10.trans hb11; obtain ⟨x11, y11⟩ := HX.out _ hb11))
  all_goals
    obtain ⟨q7, c7⟩ := RstO.last h11
    have f7 := RstO.free h11 7
    have H11 := Lib.hid h11
    clear h11 h10 h9
    go_wp2
    go_end0
    refine ⟨rfl, ?_, (HK.out.trans hb11).setCell (p := ⟨b, 7, none⟩) rfl _⟩
    obtain ⟨o, hr⟩ := H11.out
    exact ⟨o, hr.setLast 125⟩

set_option maxHeartbeats 2000000 in
theorem nest_upO1 {ns : UInt8} {l2 : List UInt8} (h : RstO w b st) (hs : st.str = 78 :: ns :: l2) (hl : st.str.length ≤ 1000000000000) {s1 : St} {d : Nat} {nm rr : List UInt8} (hk : ns ≠ 67 ∧ ns ≠ 83) (hn : nm ≠ [])
    (t1 : 65 ≤ (ns.toNat : Int)) (t2 : (ns.toNat : Int) ≤ 90) (hP : Pow w b)
    (hrec : ∀ W, RstO W b (st.on l2) → Below b w W → Calls Tryd.prog 122 #[.pointer (some ⟨b, 0, none⟩), .bool sep] W (Done b W (.tuple #[]) s1))
    (hu : uIn s1.str = false) (hl1 : s1.str.length ≤ 1000000000000) (hi : identAll s1.str = some ((d : Int), nm, rr)) (hd : d ≤ 9223372036854775807) (hsk : s1.skip = false) (hmx : s1.max = 0) (ho : s1.out.length + 40 * s1.str.length ≤ 1000000000000) :
    Calls Tryd.prog 122 #[.pointer (some ⟨b, 0, none⟩), .bool sep] w (Done b w (.tuple #[]) ((((((s1.on rr).putm [58, 58, 123]).putm [ns]).putm [58]).putm nm).putd (35 :: (decDigits d ++ [125])))) := by
  have hlt := h.lt
  have c1 := h.str
  rw [hs] at c1
  have hp0 : 0 < (bs (78 :: ns :: l2)).size := by rw [bs_size]; simp
  have hp1 : 0 < (bs (ns :: l2)).size := by rw [bs_size]; simp
  have hlen : ¬ ((l2.length : Int) + 1 + 1 < 1) := by omega
  have hlen1 : ¬ ((l2.length : Int) + 1 < 1) := by omega
  have cb : ((78 : UInt8).toNat : Int) = 78 := rfl
  have HA := Lib.hid (adv_o (w := boxed w b sep) ((h.alloc _).alloc _) hs (by omega))
  have HA2 := Lib.hid (fun (W : World) (hW : RstO W b (st.on (ns :: l2))) => adv_o hW rfl (by show (ns :: l2).length ≤ _; rw [hs] at hl; simp at hl ⊢; omega))
  have HC := Lib.hid (fun (W : World) (hW : RstO W b (st.on (ns :: l2))) => (show W.cell? ⟨b, 1, none⟩ = some (.string (bs (ns :: l2))) from hW.str))
  have HX := Lib.hid (fun (W : World) => boxed_cells (W := W) (sep := sep) hlt)
  have HK := Lib.hid (boxed_keep hlt sep)
  have HR := Lib.hid hrec
  have k1 : ns.toNat ≠ 67 := fun e => hk.1 (UInt8.toNat_inj.1 e)
  have k2 : ns.toNat ≠ 83 := fun e => hk.2 (UInt8.toNat_inj.1 e)
  have k3 : ((ns.toNat : Int) == 67) = false := by simp; omega
  have k4 : ((ns.toNat : Int) == 83) = false := by simp; omega
  clear hk k1 k2
  have HI := fun (W : World) (hW : RstO W b s1) => ident_o hW (noUIn_of hu) (by omega)
  rw [hi] at HI
  replace HI := Lib.hid HI
  have hln := identAll_len hi
  have hdd := decDigits_len 18 d (by omega)
  have hm : 0 ≤ s1.max := by omega
  have q2 : (s1.on rr).out.length = s1.out.length := rfl
  have q3 : ((s1.on rr).putm [58, 58, 123]).out.length ≤ s1.out.length + 3 := putm_out _ _
  have q4 : (((s1.on rr).putm [58, 58, 123]).putm [ns]).out.length ≤ ((s1.on rr).putm [58, 58, 123]).out.length + 1 := putm_out _ _
  have q5 : ((((s1.on rr).putm [58, 58, 123]).putm [ns]).putm [58]).out.length ≤ (((s1.on rr).putm [58, 58, 123]).putm [ns]).out.length + 1 := putm_out _ _
  have q6 : (((((s1.on rr).putm [58, 58, 123]).putm [ns]).putm [58]).putm nm).out.length ≤ ((((s1.on rr).putm [58, 58, 123]).putm [ns]).putm [58]).out.length + nm.length := putm_out _ _
  have hsk5 : (((((s1.on rr).putm [58, 58, 123]).putm [ns]).putm [58]).putm nm).skip = false ∧ (((((s1.on rr).putm [58, 58, 123]).putm [ns]).putm [58]).putm nm).max = 0 := by
    have e1 : (s1.on rr).skip = false ∧ (s1.on rr).max = 0 := ⟨hsk, hmx⟩
    have step : ∀ (s : St) (l : List UInt8), s.skip = false ∧ s.max = 0 → (s.putm l).skip = false ∧ (s.putm l).max = 0 := fun s l hh => by rw [putm_keeps hh.1 hh.2]; exact hh
    exact step _ _ (step _ _ (step _ _ (step _ _ e1)))
  have HW1 := Lib.hid (fun (W : World) (hW : RstO W b (s1.on rr)) => write_o hW hm [58, 58, 123] (by show s1.out.length + 3 ≤ _; omega))
  have HWk := Lib.hid (fun (W : World) (hW : RstO W b ((s1.on rr).putm [58, 58, 123])) => byte_o hW (by rw [putm_max]; exact hm) ns (by omega))
  have HWc := Lib.hid (fun (W : World) (hW : RstO W b (((s1.on rr).putm [58, 58, 123]).putm [ns])) => byte_o hW (by rw [putm_max, putm_max]; exact hm) 58 (by omega))
  have HWn := Lib.hid (fun (W : World) (hW : RstO W b ((((s1.on rr).putm [58, 58, 123]).putm [ns]).putm [58])) => write_o hW (by rw [putm_max, putm_max, putm_max]; exact hm) nm (by omega))
  have hnl : (0 : Int) < (nm.length : Int) := by have := List.length_pos_iff.2 hn; omega
  have HE := Lib.hid (fun (W : World) (hW : Below b w W) => fmtInt_any (w := W) (hP.keep hW (Nat.le_refl _)) d hd)
  have HB := Lib.hid (fun (W : World) (hW : RstO W b (((((s1.on rr).putm [58, 58, 123]).putm [ns]).putm [58]).putm nm)) => (show Calls Tryd.prog 62 #[.pointer (some ⟨b, 3, none⟩), .string (bs (35 :: (decDigits d ++ [125])))] W fun e w' => (∃ v, e = .returned v) ∧ RstO w' b ((((((s1.on rr).putm [58, 58, 123]).putm [ns]).putm [58]).putm nm).putd (35 :: (decDigits d ++ [125]))) ∧ Keep b W w' from by
    obtain ⟨o, hW⟩ := hW
    refine (builderWrite_any hW (35 :: (decDigits d ++ [125])) (by simp only [List.length_cons, List.length_append, List.length_nil]; omega)).mono ?_
    rintro e w' ⟨he, hr, hk⟩
    refine ⟨he, ⟨o, ?_⟩, hk⟩
    unfold St.putd
    rw [if_neg (by rw [hsk5.1]; simp)]
    exact hr))
  have HS := Lib.hid (fun (W : World) (hW : RstO W b (((((s1.on rr).putm [58, 58, 123]).putm [ns]).putm [58]).putm nm)) => (show W.cell? ⟨b, 5, none⟩ = some (.bool false) from by rw [hW.skip, hsk5.1]))
  have a1 : ∀ W, (Op.stringOp .add ⟨#[35]⟩ (bs (decDigits d))).run Tryd.prog W = .ok (.string (bs (35 :: decDigits d))) W := add_bs [35] _ (by simp; omega)
  have a2 : ∀ W, (Op.stringOp .add (bs (35 :: decDigits d)) ⟨#[125]⟩).run Tryd.prog W = .ok (.string (bs (35 :: (decDigits d ++ [125])))) W := add_bs (35 :: decDigits d) [125] (by simp; omega)
  have t3 : ¬ 97 ≤ (ns.toNat : Int) := by omega
  clear h hs hl hrec hu hl1 hi hm ho hln hsk hmx hP hd hdd q2 q3 q4 q5 q6 hsk5 hn
  go_enter Tryd.func122, Tryd.ntmps122
  go_wp2_with (first
    | (go_at_call 81; refine (HA.out).mono ?_; rintro e w2 ⟨rfl, h2, hb2⟩; obtain ⟨x2, y2⟩ := HX.out _ hb2; have c2 := HC.out _ h2; clear HA)
    | (go_at_call 81; refine (HA2.out _ h2).mono ?_; rintro e w3 ⟨rfl, h3, hb3⟩; replace hb3 := hb2.trans hb3; obtain ⟨x3, y3⟩ := HX.out _ hb3)
    | (go_at_call 122; refine (HR.out _ h3 (HK.out.trans hb3).below).mono ?_; rintro e w4 ⟨rfl, h4, hb4⟩; replace hb4 := hb3.trans hb4; obtain ⟨x4, y4⟩ := HX.out _ hb4)
    | (go_at_call 131; refine (HI.out _ h4).mono ?_; rintro e w5 ⟨rfl, h5, hb5⟩; replace hb5 := hb4.trans hb5; obtain ⟨x5, y5⟩ := HX.out _ hb5)
    | (go_at_call 82; refine (HW1.out _ h5).mono ?_; rintro e w6 ⟨rfl, h6, hb6⟩; replace hb6 := hb5.trans hb6; obtain ⟨x6, y6⟩ := HX.out _ hb6; clear h5)
    | (go_at_call 95; refine (HWk.out _ h6).mono ?_; rintro e w7 ⟨rfl, h7, hb7⟩; replace hb7 := hb6.trans hb7; obtain ⟨x7, y7⟩ := HX.out _ hb7; clear h6)
    | (go_at_call 95; refine (HWc.out _ h7).mono ?_; rintro e w8 ⟨rfl, h8, hb8⟩; replace hb8 := hb7.trans hb8; obtain ⟨x8, y8⟩ := HX.out _ hb8; clear h7)
    | (go_at_call 82; refine (HWn.out _ h8).mono ?_; rintro e w9 ⟨rfl, h9, hb9⟩; replace hb9 := hb8.trans hb9; obtain ⟨x9, y9⟩ := HX.out _ hb9; clear h8; have c9 := HS.out _ h9))
  go_region_with (first
    | (go_at_call 134; refine (HE.out _ (HK.out.trans hb9).below.drew).mono ?_; rintro e w10 ⟨rfl, hb10⟩; have hlt9 := Nat.le_of_lt (RstO.lt h9); have h10 := RstO.keepB (RstO.drew h9) hb10; replace hb10 := hb9.drew.trans (Keep.of_below hb10 (Nat.le_refl _) hlt9); obtain ⟨x10, y10⟩ := HX.out _ hb10)
    | (go_at_call 62; refine (HB.out _ h10).mono ?_; rintro e w11 ⟨⟨v, rfl⟩, h11, hb11⟩; replace hb11 := hb10.trans hb11; obtain ⟨x11, y11⟩ := HX.out _ hb11))
  all_goals
    obtain ⟨q7, c7⟩ := RstO.last h11
    have f7 := RstO.free h11 7
    have H11 := Lib.hid h11
    clear h11 h10 h9
    go_wp2
    go_end0
    refine ⟨rfl, ?_, (HK.out.trans hb11).setCell (p := ⟨b, 7, none⟩) rfl _⟩
    obtain ⟨o, hr⟩ := H11.out
    exact ⟨o, hr.setLast 125⟩
end
end Go.Proofs.YtokjbdofpdncdaaDoor
