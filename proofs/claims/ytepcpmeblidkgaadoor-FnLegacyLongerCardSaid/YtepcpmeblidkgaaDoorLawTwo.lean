/- FnLegacyTwo: the walk. -/
import Derived.Test.YtepcpmeblidkgaaDoorLgGate
import Derived.Test.YtepcpmeblidkgaaDoorLaid
namespace Go.Proofs.YtepcpmeblidkgaaDoor
open Go.RowKit Go.Lib
set_option linter.unusedVariables false
set_option maxRecDepth 100000
attribute [local go_sem] bs_size bs_toList

theorem lgTold_yes {w : World} {v : Value} {ws ts : List (List UInt8)} {h : List UInt8} (hP : Pow w w.heap.size) (hS : StrsAt w v ws) (hN : NamesTo ws ts) (hh : HashOk h) (hn : ws.length ≤ 200) :
    Calls Tryd.prog 20 #[v, .string (bs h), .string (bs (lgPath ts))] w fun e w' => e = .returned (.bool true) ∧ Below w.heap.size w w' := by
  have HS := Lib.hid (lgSymbol_any (h := h) hP hS (namesTo_len hN) (by omega) (by have := hh.1; omega))
  have HO := Lib.hid (fun W => oldImpl_any (oldSays_yes hN hh hn) W)
  have e1 : (lgPath ts == lgPath ts) = true := by simp
  obtain ⟨Z, hZ⟩ : ∃ Z, zeroOpts = Z := ⟨_, rfl⟩
  rw [hZ] at HO
  unfold zeroOpts at hZ
  subst hZ
  clear hP hS hN hh hn
  go_enter Tryd.func20, Tryd.ntmps20
  go_wp2_with (first
    | (go_at_call 24; refine (HS.out).mono ?_; rintro e w2 ⟨rfl, hb2⟩)
    | (go_at_call 23; refine (HO.out _).mono ?_; rintro e w3 ⟨rfl, hb3⟩))
  go_ret
  exact ⟨rfl, hb2.trans (hb3.mono hb2.size)⟩

theorem strs_two (W : World) (x y : List UInt8) : StrsAt (W.alloc (.cells #[.string (bs x), .string (bs y)] 9)) (.slice (some ⟨W.heap.size, 0, none⟩) 2 2) [x, y] := by
  refine ⟨some ⟨W.heap.size, 0, none⟩, 2, rfl, Nat.le_refl _, by unfold maxLen; decide, .inr ⟨W.heap.size, 0, rfl, by simp, fun i hi => ?_⟩⟩
  rw [Nat.zero_add, (Blk.new W 9 #[.string (bs x), .string (bs y)]).cell]
  match i, hi with
  | 0, _ => rfl
  | 1, _ => rfl
theorem strs_one (W : World) (x : List UInt8) : StrsAt (W.alloc (.cells #[.string (bs x)] 9)) (.slice (some ⟨W.heap.size, 0, none⟩) 1 1) [x] := by
  refine ⟨some ⟨W.heap.size, 0, none⟩, 1, rfl, Nat.le_refl _, by unfold maxLen; decide, .inr ⟨W.heap.size, 0, rfl, by simp, fun i hi => ?_⟩⟩
  rw [Nat.zero_add, (Blk.new W 9 #[.string (bs x)]).cell]
  match i, hi with
  | 0, _ => rfl

set_option maxHeartbeats 2000000 in
theorem legacyTwo_walk (w : World) (hP : Pow w w.heap.size) (A1 : Option Addr) (n1 c1 : Nat) (l1 : List UInt8) (h1 : Bytes w A1 n1 l1) (k1 : n1 ≤ maxLen ∧ n1 ≤ c1) (A2 : Option Addr) (n2 c2 : Nat) (l2 : List UInt8) (h2 : Bytes w A2 n2 l2) (k2 : n2 ≤ maxLen ∧ n2 ≤ c2)
    (A3 : Option Addr) (n3 c3 : Nat) (l3 : List UInt8) (h3 : Bytes w A3 n3 l3) (k3 : n3 ≤ maxLen ∧ n3 ≤ c3) :
    Calls Tryd.prog 7 #[.slice A1 n1 c1, .slice A2 n2 c2, .slice A3 n3 c3] w fun e w' => e = .returned (.bool true) ∧ Below w.heap.size w w' := by
  by_cases hz1 : 2147483647 < n1
  · have hz' : decide ((2147483647 : Int) < (n1 : Int)) = true := decide_eq_true (by omega)
    clear hz1
    go_enter Tryd.func7, Tryd.ntmps7
    go_wp2_with fail
    go_ret
    exact ⟨rfl, Below.refl _ _⟩
  have hz1' : decide ((2147483647 : Int) < (n1 : Int)) = false := decide_eq_false (by omega)
  by_cases hz2 : 2147483647 < n2
  · have hz' : decide ((2147483647 : Int) < (n2 : Int)) = true := decide_eq_true (by omega)
    clear hz1 hz2
    go_enter Tryd.func7, Tryd.ntmps7
    go_wp2_with fail
    go_ret
    exact ⟨rfl, Below.refl _ _⟩
  have hz2' : decide ((2147483647 : Int) < (n2 : Int)) = false := decide_eq_false (by omega)
  by_cases hz3 : 2147483647 < n3
  · have hz' : decide ((2147483647 : Int) < (n3 : Int)) = true := decide_eq_true (by omega)
    clear hz1 hz2 hz3
    go_enter Tryd.func7, Tryd.ntmps7
    go_wp2_with fail
    go_ret
    exact ⟨rfl, Below.refl _ _⟩
  have hz3' : decide ((2147483647 : Int) < (n3 : Int)) = false := decide_eq_false (by omega)
  have hT1 := h1.take (min n1 1000) (by omega)
  have hT2 := h2.take (min n2 1000) (by omega)
  have e1 := word_name (l1.take (min n1 1000))
  have e2 := word_name (l2.take (min n2 1000))
  have f1 := word_len (l1.take (min n1 1000)) (by simp; omega)
  have f2 := word_len (l2.take (min n2 1000)) (by simp; omega)
  have HC1 := Lib.hid (fun W : World => idCut_any (w := W) (A := A1) k1.2)
  have HC2 := Lib.hid (fun W : World => idCut_any (w := W) (A := A2) k2.2)
  have HP1 := Lib.hid (fun (W : World) (hW : Below w.heap.size w W) => anWord_any (cap := c1) (hT1.below hW) (by omega))
  have HP2 := Lib.hid (fun (W : World) (hW : Below w.heap.size w W) => anWord_any (cap := c2) (hT2.below hW) (by omega))
  have HH := Lib.hid (fun (W : World) (hW : Below w.heap.size w W) => lgHash_any (cn := c3) (h3.below hW) k3.1)
  have hok := fun (h : 8 ≤ pop16 (maskH (hashK l3 16))) => hashK_ok (l := l3) (Nat.le_trans (by decide) h)
  generalize wordOf (l1.take (min n1 1000)) = X1 at *
  generalize wordOf (l2.take (min n2 1000)) = X2 at *
  generalize hashK l3 16 = M at *
  have HT := Lib.hid (fun (h8 : 8 ≤ pop16 (maskH M)) (W : World) (hW : Below w.heap.size w W) => (lgTold_yes (w := W.alloc (.cells #[.string (bs X1), .string (bs X2)] 9)) (ts := [X1, X2]) ((hP.keep (hW.alloc hW.size _) (Nat.le_refl _)).up (hW.alloc hW.size _).size (Nat.le_refl _)) (strs_two W X1 X2) (.cons e1 (by omega) (.cons e2 (by omega) .nil)) (hok h8) (by simp)).mono fun e w' h => (show e = .returned (.bool true) ∧ Below w.heap.size w w' from ⟨h.1, (hW.alloc hW.size _).trans (h.2.mono (hW.alloc hW.size _).size)⟩))
  obtain ⟨X3, hX3⟩ : ∃ X, X1 ++ [58, 58] = X := ⟨_, rfl⟩
  obtain ⟨X4, hX4⟩ : ∃ X, X3 ++ X2 = X := ⟨_, rfl⟩
  have hX3l : X3.length ≤ 1002 := by rw [← hX3]; simp; omega
  have a1 : ∀ W, (Op.stringOp .add (bs X1) ⟨#[58, 58]⟩).run Tryd.prog W = .ok (.string (bs X3)) W := by rw [← hX3]; exact add_bs X1 [58, 58] (by simp; omega)
  have a2 : ∀ W, (Op.stringOp .add (bs X3) (bs X2)).run Tryd.prog W = .ok (.string (bs X4)) W := by rw [← hX4]; exact add_bs X3 X2 (by omega)
  have e4 : lgPath [X1, X2] = X4 := by rw [← hX4, ← hX3]; simp [lgPath]
  rw [e4] at HT
  clear hX3 hX4 hX3l e4 hT1 hT2 e1 e2 f1 f2 h1 h2 h3 k1 k2 k3 hz1 hz2 hz3 hP hok
  generalize pop16 (maskH M) = p at *
  by_cases h8 : 8 ≤ p
  · replace HT := Lib.hid (HT.out h8)
    rw [decide_eq_true h8] at HH
    clear h8
    go_enter Tryd.func7, Tryd.ntmps7
    go_wp2_with (first
      | (go_at_call 16; with_reducible refine (HC2.out _).mono ?_; rintro e w4 ⟨rfl, rfl⟩)
      | (go_at_call 16; with_reducible refine (HC1.out _).mono ?_; rintro e w2 ⟨rfl, rfl⟩)
      | (go_at_call 15; with_reducible refine (HP2.out _ hb3).mono ?_; rintro e w5 ⟨rfl, hb5⟩; replace hb5 := hb3.trans (hb5.mono hb3.size))
      | (go_at_call 15; with_reducible refine (HP1.out _ (Below.refl _ _)).mono ?_; rintro e w3 ⟨rfl, hb3⟩)
      | (go_at_call 19; refine (HH.out _ hb5).mono ?_; rintro e w6 ⟨rfl, hb6⟩; replace hb6 := hb5.trans (hb6.mono hb5.size))
      | (go_at_call 20; refine (HT.out _ hb6).mono ?_; rintro e w7 ⟨rfl, hb7⟩))
    go_ret
    exact ⟨rfl, hb7⟩
  · rw [decide_eq_false h8] at HH
    clear h8 HT
    go_enter Tryd.func7, Tryd.ntmps7
    go_wp2_with (first
      | (go_at_call 16; with_reducible refine (HC2.out _).mono ?_; rintro e w4 ⟨rfl, rfl⟩)
      | (go_at_call 16; with_reducible refine (HC1.out _).mono ?_; rintro e w2 ⟨rfl, rfl⟩)
      | (go_at_call 15; with_reducible refine (HP2.out _ hb3).mono ?_; rintro e w5 ⟨rfl, hb5⟩; replace hb5 := hb3.trans (hb5.mono hb3.size))
      | (go_at_call 15; with_reducible refine (HP1.out _ (Below.refl _ _)).mono ?_; rintro e w3 ⟨rfl, hb3⟩)
      | (go_at_call 19; refine (HH.out _ hb5).mono ?_; rintro e w6 ⟨rfl, hb6⟩; replace hb6 := hb5.trans (hb6.mono hb5.size)))
    go_ret
    exact ⟨rfl, hb6⟩
end Go.Proofs.YtepcpmeblidkgaaDoor
