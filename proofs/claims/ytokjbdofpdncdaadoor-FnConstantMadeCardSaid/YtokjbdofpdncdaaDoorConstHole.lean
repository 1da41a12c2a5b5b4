/- A constant that is not told, and one that refers back to where nothing stands. -/
import Derived.Test.YtokjbdofpdncdaaDoorBox
import Derived.Test.YtokjbdofpdncdaaDoorByte
import Derived.Test.YtokjbdofpdncdaaDoorB62
import Derived.Test.YtokjbdofpdncdaaDoorDigits
import Derived.WalkMore
import Derived.Deep.CutBlock
namespace Go.Proofs.YtokjbdofpdncdaaDoor
open Go.RowKit Go.Lib
set_option linter.unusedVariables false
set_option maxRecDepth 100000
attribute [local go_sem] bs_size bs_get0

set_option maxHeartbeats 2000000 in
theorem const_hole {w : World} {b : Nat} {st : St} {l : List UInt8} (h : Rst w b st) (hc : st.str = 112 :: l) (hsk : st.skip = false) (hm : st.max = 0) (hl : st.str.length ≤ 9223372036854775000) (ho : st.out.length ≤ 1000000) :
    Calls Tryd.prog 73 #[.pointer (some ⟨b, 0, none⟩)] w (Done b w (.tuple #[]) { st with str := l, out := st.out ++ [95] }) := by
  obtain ⟨orig, str, off, out, skip, life, noGen, max⟩ := st
  simp only at hc hsk hm ho hl
  subst hc hsk hm
  have c1 := h.str
  simp only at c1
  have hp0 : 0 < (bs (112 :: l)).size := by rw [bs_size]; simp
  have hlen : ¬ ((l.length : Int) + 1 < 1) := by omega
  have cb : ((112 : UInt8).toNat : Int) = 112 := rfl
  have HA := Lib.hid (advance_one h rfl (by show (112 :: l).length ≤ _; omega))
  have HY := Lib.hid (fun (w2 : World) (o : Int) (h2 : Rst w2 b ⟨orig, l, o, out, false, life, noGen, 0⟩) => byte_any h2 rfl 95 (by show out.length + 1 ≤ _; omega))
  clear h hl ho
  go_enter Tryd.func73, Tryd.ntmps73
  go_step3
  go_wp2_with (first | (go_at_call 81; refine (HA.out).mono ?_; rintro e w2 ⟨rfl, ⟨o2, h2⟩, hb2⟩) | (go_at_call 95; refine (HY.out _ _ h2).mono ?_; rintro e w3 ⟨rfl, ⟨o3, h3⟩, hb3⟩))
  rw [Exit.noGoto_ret]
  go_end0
  exact ⟨rfl, ⟨o3, h3⟩, hb2.trans hb3⟩

set_option maxHeartbeats 1000000 in
theorem backref_none {w : World} {b n : Nat} {st : St} {t : List UInt8} {K : Value} (h : Rst w b st) (hc : st.str = 66 :: (b62of n ++ t)) (hn : n ≤ 4611686018427387904) (hof : st.off = 0) (hsk : st.skip = false) (hm : st.max = 0) (hl : st.str.length ≤ 9223372036854775000) :
    Calls Tryd.prog 94 #[.pointer (some ⟨b, 0, none⟩), K] w (Fell b w) := by
  obtain ⟨orig, str, off, out, skip, life, noGen, max⟩ := st
  simp only at hc hsk hm hl hof
  subst hc hsk hm hof
  have hlt := h.lt
  have c2 := h.off
  have hA := h.allocd (.cells #[.pointer (some ⟨b, 0, none⟩)] 98)
  have hbox : Blk (w.alloc (.cells #[.pointer (some ⟨b, 0, none⟩)] 98)) w.heap.size 98 #[.pointer (some ⟨b, 0, none⟩)] := Blk.new _ _ _
  have hk : Keep b w (w.alloc (.cells #[.pointer (some ⟨b, 0, none⟩)] 98)) := (Keep.refl b w).alloc (by omega) _
  simp only at c2
  have hr : b62 (b62of n ++ t) = some ((n : Int), t) := b62_read hn t
  obtain ⟨W, hW⟩ : ∃ W, w.alloc (.cells #[.pointer (some ⟨b, 0, none⟩)] 98) = W := ⟨_, rfl⟩
  have HC := Lib.hid (checkChar_yes (c := 66) (l := b62of n ++ t) hA rfl (by show (66 :: (b62of n ++ t)).length ≤ _; omega))
  have HB := Lib.hid (fun (w2 : World) (o : Int) (h2 : Rst w2 b ⟨orig, b62of n ++ t, o, out, false, life, noGen, 0⟩) => by
    have := base62_any h2 (by simp at hl ⊢; omega)
    simp only at this
    rw [hr] at this
    exact this)
  have HX := Lib.hid hbox
  have HK := Lib.hid hk
  have hlt' : ¬ w.heap.size = b := by omega
  have hn0 : 0 ≤ (n : Int) := by omega
  have hn1 : decide ((n : Int) < 0) = false := decide_eq_false (by omega)
  have cb : ((66 : UInt8).toNat : Int) = 66 := rfl
  clear h hl hr hA hbox hk hW hn
  go_enter_defers Tryd.func94, Tryd.ntmps94
  have cell : ∀ W2, Keep b (w.alloc (.cells #[.pointer (some ⟨b, 0, none⟩)] 98)) W2 → W2.cell? ⟨w.heap.size, 0, none⟩ = some (.pointer (some ⟨b, 0, none⟩)) := fun W2 h => ((h.blk HX.out hlt' (by decide)).cell 0).trans rfl
  replace cell := Lib.hid cell
  go_wp2_with (first
    | (go_at_call 114; refine (HC.out).mono ?_; rintro e w2 ⟨rfl, ⟨o2, h2⟩, hb2⟩; have cb2 := cell.out _ hb2)
    | (go_at_call 115; refine (HB.out _ _ h2).mono ?_; rintro e w3 ⟨rfl, ⟨o3, h3⟩, hb3⟩; replace hb3 := hb2.trans hb3; have cb3 := cell.out _ hb3; have c5 := h3.skip; have c9 := h3.max; simp only at c5 c9))
  have H3 := Lib.hid h3
  clear h2 h3 hb2
  go_region
  all_goals
    go_wp2_with (go_at_call 80; refine (fail_any H3.out.drew _).mono ?_; rintro e w4 ⟨⟨_, _, rfl⟩, rfl⟩)
    exact ⟨⟨_, _, rfl⟩, HK.out.trans hb3.drew⟩

set_option maxHeartbeats 2000000 in
theorem const_back {w : World} {b n : Nat} {st : St} {t : List UInt8} (h : Rst w b st) (hc : st.str = 66 :: (b62of n ++ t)) (hof : st.off = 0) (hsk : st.skip = false) (hm : st.max = 0) (hl : st.str.length ≤ 9223372036854775000) (hn : n ≤ 4611686018427387904) :
    Calls Tryd.prog 73 #[.pointer (some ⟨b, 0, none⟩)] w (Fell b w) := by
  have hmf : ∀ (fn : Fn) (first cap : Array Value) (w : World), (Instr.makeFunc fn first cap).run Tryd.prog w = .ok (.func fn first cap) w := fun _ _ _ _ => rfl
  have HB := Lib.hid (fun K => backref_none (K := K) h hc hn hof hsk hm hl)
  have c1 := h.str
  rw [hc] at c1
  have hp0 : 0 < (bs (66 :: (b62of n ++ t))).size := by rw [bs_size]; simp
  have hlen : ¬ (((b62of n ++ t).length : Int) + 1 < 1) := by omega
  have cb : ((66 : UInt8).toNat : Int) = 66 := rfl
  generalize b62of n ++ t = u at c1 hp0 hlen
  clear h hl hc hn hof hsk hm
  go_enter Tryd.func73, Tryd.ntmps73
  go_step3
  go_wp2_with (go_at_call 94; refine (HB.out _).mono ?_; rintro e w2 ⟨⟨_, _, rfl⟩, hb2⟩)
  exact ⟨rfl, ⟨_, _, rfl⟩, hb2⟩
end Go.Proofs.YtokjbdofpdncdaaDoor
