/- FnConstantZero and FnConstantReference: the walks. -/
import Derived.Test.YtepcpmeblidkgaaDoorGateConst
import Derived.Test.YtepcpmeblidkgaaDoorConstSpec
namespace Go.Proofs.YtepcpmeblidkgaaDoor
open Go.RowKit Go.Lib
set_option linter.unusedVariables false
set_option maxRecDepth 100000
attribute [local go_sem] bs_size bs_toList

theorem letters6 {k : Nat} (hk : k = 0 ∨ k = 1 ∨ k = 2 ∨ k = 3 ∨ k = 4 ∨ k = 5) :
    uLetter k ∈ kindLetters ∧ kindOf (uLetter k) = 2 ∧ sLetter k ∈ kindLetters ∧ kindOf (sLetter k) = 1 := by
  rcases hk with rfl | rfl | rfl | rfl | rfl | rfl <;> decide
theorem hex_zero : hexL 0 = [48] := hexL_small (by decide)
theorem dec_zero : decDigits 0 = [48] := decDigits_small (by decide)

theorem constZero_walk (w : World) (hP : Pow w w.heap.size) (i : Int) (hi : (Lit.int .i64 i).wf = true) (l : List UInt8) (hl : l.length ≤ maxLen) :
    Calls Tryd.prog 11 #[.int .i64 i, .string (bs l)] w fun e w' => e = .returned (.bool true) ∧ Below w.heap.size w w' := by
  by_cases hz : 2147483647 < l.length
  · go_enter Tryd.func11, Tryd.ntmps11
    go_wp2_with fail
    go_ret
    exact ⟨rfl, Below.refl _ _⟩
  · have hz' : decide ((2147483647:Int) < (l.length : Int)) = false := decide_eq_false (by omega)
    obtain ⟨k, hk, h⟩ := six hi
    obtain ⟨t1, t2, t3, t4⟩ := letters6 hk
    have HU := Lib.hid (fun W : World => RustUnsigned_any hk h W)
    have HS := Lib.hid (fun W : World => RustSigned_any hk h W)
    have hcv : ∀ (W : World) (c : UInt8), (convert 22 9 (.slice (some ⟨W.heap.size, 0, none⟩) 1 1)).run Tryd.prog (W.alloc (.cells #[.int .u8 (c.toNat : Int)] 5)) = .ok (.string (bs [c])) (W.alloc (.cells #[.int .u8 (c.toNat : Int)] 5)) :=
      fun W c => convert_one (P := Tryd.prog) Tryd.underlying22 Tryd.underlying5 Tryd.underlying9 W (x := (c.toNat : Int)) (c := c) rfl 5
    have ha : ∀ (c : UInt8) W, (Op.stringOp .add (bs [c]) ⟨#[48, 95]⟩).run Tryd.prog W = .ok (.string (bs [c, 48, 95])) W := fun c => add_bs [c] [48, 95] (by simp)
    have HI := Lib.hid (fun (c : UInt8) (hc : c = uLetter k ∨ c = sLetter k) (W : World) (hb : Below w.heap.size w W) => constIs_yes (w := W) (c := [c, 48, 95]) (l := l) (o := [48]) ((hP.keep hb (Nat.le_refl _)).up hb.size (Nat.le_refl _)) (by simp; omega) (by
      have e := hex_zero
      rcases hc with rfl | rfl
      · have := reads_uns t1 t2 (n := 0) (by omega) l
        rw [hex_zero, dec_zero] at this
        exact this
      · have := reads_sig t3 t4 (n := 0) (by omega) l
        rw [hex_zero, dec_zero] at this
        exact this))
    have HB : ∀ W : World, Below w.heap.size w W → ∀ o, Below w.heap.size w (W.alloc o) := fun W h o => h.alloc h.size o
    have HBel : Below w.heap.size w w := Below.refl _ _
    clear hz hP h t1 t2 t3 t4 hk hi hl
    go_enter Tryd.func11, Tryd.ntmps11
    go_wp2_with (first
      | (go_at_call 29; refine (HU.out _).mono ?_; rintro e w2 ⟨rfl, rfl⟩)
      | (go_at_call 36; refine (HS.out _).mono ?_; rintro e w2 ⟨rfl, rfl⟩))
    refine (HI.out _ (.inl rfl) _ (HB _ HBel _)).mono ?_
    rintro e w2 ⟨rfl, hb2⟩
    replace HBel := (HB _ HBel _).trans (hb2.mono (HB _ HBel _).size)
    go_wp2_with (first
      | (go_at_call 36; refine (HS.out _).mono ?_; rintro e w2 ⟨rfl, rfl⟩))
    refine (HI.out _ (.inr rfl) _ (HB _ HBel _)).mono ?_
    rintro e w3 ⟨rfl, hb3⟩
    replace HBel := (HB _ HBel _).trans (hb3.mono (HB _ HBel _).size)
    go_wp2
    go_ret
    exact ⟨rfl, HBel⟩

theorem constRef_walk (w : World) (hP : Pow w w.heap.size) (n : Nat) (hn : n ≤ 18446744073709551615) (l : List UInt8) (hl : l.length ≤ maxLen) :
    Calls Tryd.prog 10 #[.int .u64 (n : Int), .string (bs l)] w fun e w' => e = .returned (.bool true) ∧ Below w.heap.size w w' := by
  by_cases hz : 2147483647 < l.length
  · go_enter Tryd.func10, Tryd.ntmps10
    go_wp2_with fail
    go_ret
    exact ⟨rfl, Below.refl _ _⟩
  · have hz' : decide ((2147483647:Int) < (l.length : Int)) = false := decide_eq_false (by omega)
    by_cases hg : 4611686018427387904 ≤ n
    · have h1 : (4611686018427387904 : Int) ≤ (n : Int) := by omega
      clear hn hg hz
      go_enter Tryd.func10, Tryd.ntmps10
      go_wp2_with fail
      go_ret
      exact ⟨rfl, Below.refl _ _⟩
    · have h1 : ¬ (4611686018427387904 : Int) ≤ (n : Int) := by omega
      have h2 : (n : Int) < 4611686018427387904 := by omega
      have hb := b62of_length n hn
      have HR := Lib.hid (reference_any n hn)
      have ha : ∀ W, (Op.stringOp .add (bs (66 :: b62of n)) (bs l)).run Tryd.prog W = .ok (.string (bs (66 :: (b62of n ++ l)))) W := add_bs (66 :: b62of n) l (by simp; omega)
      have HF := Lib.hid (constRefused_yes (w := w) (s := 66 :: (b62of n ++ l)) hP (by simp; omega) (reads_back (by omega) l))
      have HI := Lib.hid (fun (W : World) (hb : Below w.heap.size w W) => constIs_yes (w := W) (c := [112]) (l := l) (o := [95]) ((hP.keep hb (Nat.le_refl _)).up hb.size (Nat.le_refl _)) (by simp; omega) (reads_hole l))
      clear hn hg hz hP hl hb
      go_enter Tryd.func10, Tryd.ntmps10
      go_wp2_with (first
        | (go_at_call 35; refine (HR.out _).mono ?_; rintro e w2 ⟨rfl, rfl⟩)
        | (go_at_call 32; refine (HF.out).mono ?_; rintro e w2 ⟨rfl, hb2⟩)
        | (go_at_call 31; refine (HI.out _ hb2).mono ?_; rintro e w3 ⟨rfl, hb3⟩))
      go_ret
      exact ⟨rfl, hb2.trans (hb3.mono hb2.size)⟩
end Go.Proofs.YtepcpmeblidkgaaDoor
