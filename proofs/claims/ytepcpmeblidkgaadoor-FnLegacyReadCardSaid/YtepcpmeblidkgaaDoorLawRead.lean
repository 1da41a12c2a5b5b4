/- FnLegacyRead: the walk. -/
import Derived.Test.YtepcpmeblidkgaaDoorLawTwo
namespace Go.Proofs.YtepcpmeblidkgaaDoor
open Go.RowKit Go.Lib
set_option linter.unusedVariables false
set_option maxRecDepth 100000
attribute [local go_sem] bs_size bs_toList

set_option maxHeartbeats 2000000 in
theorem legacyRead_walk (w : World) (hP : Pow w w.heap.size) (A1 : Option Addr) (n1 c1 : Nat) (names : List (List UInt8)) (hN : NamesAt w A1 n1 names) (k1 : n1 ≤ maxLen ∧ n1 ≤ c1)
    (A3 : Option Addr) (n3 c3 : Nat) (l3 : List UInt8) (h3 : Bytes w A3 n3 l3) (k3 : n3 ≤ maxLen ∧ n3 ≤ c3) :
    Calls Tryd.prog 6 #[.slice A1 n1 c1, .slice A3 n3 c3] w fun e w' => e = .returned (.bool true) ∧ Below w.heap.size w w' := by
  have HF := Lib.hid (zzFits1_any (cap := c1) hN k1.1)
  cases hfit : fitsN names with
  | false =>
    rw [hfit] at HF
    clear hN h3
    go_enter Tryd.func6, Tryd.ntmps6
    go_wp2_with (go_at_call 25; refine (HF.out).mono ?_; rintro e w2 ⟨rfl, rfl⟩)
    go_ret
    exact ⟨rfl, Below.refl _ _⟩
  | true =>
    rw [hfit] at HF
    clear hfit
    by_cases hz3 : 2147483647 < n3
    · have hz' : decide ((2147483647 : Int) < (n3 : Int)) = true := decide_eq_true (by omega)
      clear hz3 hN h3
      go_enter Tryd.func6, Tryd.ntmps6
      go_wp2_with (go_at_call 25; refine (HF.out).mono ?_; rintro e w2 ⟨rfl, rfl⟩)
      go_ret
      exact ⟨rfl, Below.refl _ _⟩
    have hz3' : decide ((2147483647 : Int) < (n3 : Int)) = false := decide_eq_false (by omega)
    have hwn := lgWordsOf_names names
    have hwl := lgWordsOf_len names
    have HW := Lib.hid (lgWords_any (cn := c1) hN k1.1)
    have HH := Lib.hid (fun (W : World) (hW : Below w.heap.size w W) => lgHash_any (cn := c3) (h3.below hW) k3.1)
    have hok := fun (h : 8 ≤ pop16 (maskH (hashK l3 16))) => hashK_ok (l := l3) (Nat.le_trans (by decide) h)
    generalize hashK l3 16 = M at *
    generalize lgWordsOf names = ws at *
    have hNN : NamesTo ws ws := words_names fun v hv => ⟨(hwn v hv).1, by have := (hwn v hv).2; omega⟩
    have HPa := Lib.hid (fun (W : World) (v : Value) (hS : StrsAt W v ws) => lgPath_any hS (namesTo_len hNN) (by omega))
    have HT := Lib.hid (fun (h8 : 8 ≤ pop16 (maskH M)) (W : World) (hW : Below w.heap.size w W) (v : Value) (hS : StrsAt W v ws) => (lgTold_yes (w := W) ((hP.keep hW (Nat.le_refl _)).up hW.size (Nat.le_refl _)) hS hNN (hok h8) (by omega)).mono fun e w' h => (show e = .returned (.bool true) ∧ Below w.heap.size w w' from ⟨h.1, hW.trans (h.2.mono hW.size)⟩))
    clear hN h3 k1 k3 hz3 hP hok hwn hwl hNN
    generalize pop16 (maskH M) = p at *
    generalize lgPath ws = T at *
    by_cases h8 : 8 ≤ p
    · replace HT := Lib.hid (HT.out h8)
      rw [decide_eq_true h8] at HH
      clear h8
      go_enter Tryd.func6, Tryd.ntmps6
      go_wp2_with (first
        | (go_at_call 25; refine (HF.out).mono ?_; rintro e w1 ⟨rfl, rfl⟩)
        | (go_at_call 26; refine (HW.out).mono ?_; rintro e w2 ⟨v, rfl, hv, hb2⟩; have hs2 := hv.strs)
        | (go_at_call 19; refine (HH.out _ hb2).mono ?_; rintro e w6 ⟨rfl, hb6⟩; have hs6 := hs2.below hb6; replace hb6 := hb2.trans (hb6.mono hb2.size))
        | (go_at_call 28; refine (HPa.out _ _ hs6).mono ?_; rintro e w7 ⟨rfl, hw7⟩; subst hw7)
        | (go_at_call 20; refine (HT.out _ hb6 _ hs6).mono ?_; rintro e w8 ⟨rfl, hb8⟩))
      go_ret
      exact ⟨rfl, hb8⟩
    · rw [decide_eq_false h8] at HH
      clear h8 HT
      go_enter Tryd.func6, Tryd.ntmps6
      go_wp2_with (first
        | (go_at_call 25; refine (HF.out).mono ?_; rintro e w1 ⟨rfl, rfl⟩)
        | (go_at_call 26; refine (HW.out).mono ?_; rintro e w2 ⟨v, rfl, hv, hb2⟩; have hs2 := hv.strs)
        | (go_at_call 19; refine (HH.out _ hb2).mono ?_; rintro e w6 ⟨rfl, hb6⟩; have hs6 := hs2.below hb6; replace hb6 := hb2.trans (hb6.mono hb2.size)))
      go_ret
      exact ⟨rfl, hb6⟩
end Go.Proofs.YtepcpmeblidkgaaDoor
