/- FnBasicWidths: the walk. -/
import Derived.Test.YtjlnnedofnefkaaDoorLawBasic
namespace Go.Proofs.YtjlnnedofnefkaaDoor
open Go.RowKit
set_option linter.unusedVariables false
set_option maxRecDepth 100000
attribute [local go_sem] bs_size bs_toList

theorem six {i : Int} (hi : (Lit.int .i64 i).wf = true) : ∃ k : Nat, (k = 0 ∨ k = 1 ∨ k = 2 ∨ k = 3 ∨ k = 4 ∨ k = 5) ∧ (wrap64 (i.tmod 6 + 6)).tmod 6 = (k : Int) := by
  have h1 := Int.tmod_lt_of_pos i (show (0:Int) < 6 by decide)
  have h2 : -6 < i.tmod 6 := by
    have := Int.tmod_lt_of_pos (-i) (show (0:Int) < 6 by decide)
    rw [Int.neg_tmod] at this
    omega
  have e : wrap64 (i.tmod 6 + 6) = i.tmod 6 + 6 := by unfold wrap64; omega
  rw [e, Int.tmod_eq_emod_of_nonneg (by omega)]
  refine ⟨((i.tmod 6 + 6) % 6).toNat, by omega, by omega⟩

def uLetter (k : Nat) : UInt8 := ([104, 116, 109, 121, 111, 106] : List UInt8).getD k 0
def sLetter (k : Nat) : UInt8 := ([97, 115, 108, 120, 110, 105] : List UInt8).getD k 0
def width (k : Nat) : List UInt8 := ([[56], [49, 54], [51, 50], [54, 52], [49, 50, 56], [115, 105, 122, 101]] : List (List UInt8)).getD k []

theorem RustUnsigned_any {i : Int} {k : Nat} (hk : k = 0 ∨ k = 1 ∨ k = 2 ∨ k = 3 ∨ k = 4 ∨ k = 5) (h : (wrap64 (i.tmod 6 + 6)).tmod 6 = (k : Int)) (w : World) :
    Calls Tryd.prog 10 #[.int .i64 i] w fun e w' => e = .returned (.int .u8 ((uLetter k).toNat : Int)) ∧ w' = w := by
  rcases hk with rfl | rfl | rfl | rfl | rfl | rfl
  all_goals
    push_cast at h
    go_enter Tryd.func10, Tryd.ntmps10
    go_wp2
    go_ret
    exact ⟨by kernel_rfl, rfl⟩
theorem RustSigned_any {i : Int} {k : Nat} (hk : k = 0 ∨ k = 1 ∨ k = 2 ∨ k = 3 ∨ k = 4 ∨ k = 5) (h : (wrap64 (i.tmod 6 + 6)).tmod 6 = (k : Int)) (w : World) :
    Calls Tryd.prog 12 #[.int .i64 i] w fun e w' => e = .returned (.int .u8 ((sLetter k).toNat : Int)) ∧ w' = w := by
  rcases hk with rfl | rfl | rfl | rfl | rfl | rfl
  all_goals
    push_cast at h
    go_enter Tryd.func12, Tryd.ntmps12
    go_wp2
    go_ret
    exact ⟨by kernel_rfl, rfl⟩

theorem width_any {i : Int} {k : Nat} (hk : k = 0 ∨ k = 1 ∨ k = 2 ∨ k = 3 ∨ k = 4 ∨ k = 5) (h : (wrap64 (i.tmod 6 + 6)).tmod 6 = (k : Int)) (w : World) :
    Calls Tryd.prog 11 #[.int .i64 i] w fun e w' => e = .returned (.string (bs (width k))) ∧ Below w.heap.size w w' := by
  rcases hk with rfl | rfl | rfl | rfl | rfl | rfl
  all_goals
    push_cast at h
    go_enter Tryd.func11, Tryd.ntmps11
    go_wp2
    go_ret
    exact ⟨by kernel_rfl, (Below.refl _ _).alloc (Nat.le_refl _) _⟩

theorem uText {k : Nat} (hk : k = 0 ∨ k = 1 ∨ k = 2 ∨ k = 3 ∨ k = 4 ∨ k = 5) : basicText (uLetter k) = 117 :: width k ∧ basicText (sLetter k) = 105 :: width k ∧ (width k).length ≤ 8 := by
  rcases hk with rfl | rfl | rfl | rfl | rfl | rfl <;> exact ⟨by kernel_rfl, by kernel_rfl, by decide⟩

theorem basicWidths_walk (w : World) (hB : Basics w w.heap.size) (i : Int) (hi : (Lit.int .i64 i).wf = true) (l : List UInt8) (hl : l.length ≤ maxLen) :
    Calls Tryd.prog 4 #[.int .i64 i, .string (bs l)] w fun e w' => e = .returned (.bool true) ∧ Below w.heap.size w w' := by
  by_cases hz : 2147483647 < l.length
  · go_enter Tryd.func4, Tryd.ntmps4
    go_wp2_with fail
    go_ret
    exact ⟨rfl, Below.refl _ _⟩
  · have hz' : decide ((2147483647:Int) < (l.length : Int)) = false := decide_eq_false (by omega)
    obtain ⟨k, hk, h⟩ := six hi
    obtain ⟨t1, t2, t3⟩ := uText hk
    have HU := Lib.hid (fun W : World => RustUnsigned_any hk h W)
    have HS := Lib.hid (fun W : World => RustSigned_any hk h W)
    have HW := Lib.hid (fun W : World => width_any hk h W)
    have ha1 : ∀ W, (Op.stringOp .add ⟨#[117]⟩ (bs (width k))).run Tryd.prog W = .ok (.string (bs (basicText (uLetter k)))) W := fun W => by rw [t1]; exact add_bs [117] (width k) (by simp; omega) W
    have ha2 : ∀ W, (Op.stringOp .add ⟨#[105]⟩ (bs (width k))).run Tryd.prog W = .ok (.string (bs (basicText (sLetter k)))) W := fun W => by rw [t2]; exact add_bs [105] (width k) (by simp; omega) W
    have HI1 := Lib.hid (fun (W : World) (hb : Below w.heap.size w W) => basicIs_yes (w := W) (c := uLetter k) ((hB.keep hb (Nat.le_refl _)).up hb.size (Nat.le_refl _)) (l := l) (by omega) (by rw [t1]; simp))
    have HI2 := Lib.hid (fun (W : World) (hb : Below w.heap.size w W) => basicIs_yes (w := W) (c := sLetter k) ((hB.keep hb (Nat.le_refl _)).up hb.size (Nat.le_refl _)) (l := l) (by omega) (by rw [t2]; simp))
    clear hz hB h hi t1 t2 t3 hk
    go_enter Tryd.func4, Tryd.ntmps4
    have HBel : Below w.heap.size w w := Below.refl _ _
    go_wp2_with (first
      | (go_at_call 10; refine (HU.out _).mono ?_; rintro e w2 ⟨rfl, rfl⟩)
      | (go_at_call 12; refine (HS.out _).mono ?_; rintro e w2 ⟨rfl, rfl⟩)
      | (go_at_call 11; refine (HW.out _).mono ?_; rintro e w2 ⟨rfl, hb2⟩; replace HBel := HBel.trans (hb2.mono HBel.size))
      | (go_at_call 9; with_reducible refine (HI1.out _ HBel).mono ?_; rintro e w2 ⟨rfl, hb2⟩; replace HBel := HBel.trans (hb2.mono HBel.size))
      | (go_at_call 9; with_reducible refine (HI2.out _ HBel).mono ?_; rintro e w2 ⟨rfl, hb2⟩; replace HBel := HBel.trans (hb2.mono HBel.size)))
    go_ret
    exact ⟨rfl, HBel⟩
end Go.Proofs.YtjlnnedofnefkaaDoor
