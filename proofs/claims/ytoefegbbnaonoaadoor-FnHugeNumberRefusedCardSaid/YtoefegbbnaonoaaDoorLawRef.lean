/- FnCutNumberRefused and FnUnknownRefused: the walks. -/
import Derived.Test.YtoefegbbnaonoaaDoorRefP
import Derived.Test.YtoefegbbnaonoaaDoorLaidC
import Derived.Deep.RegionWith
namespace Go.Proofs.YtoefegbbnaonoaaDoor
open Go.RowKit Go.Lib
set_option linter.unusedVariables false
set_option maxRecDepth 100000
attribute [local go_sem] bs_size bs_toList bs_to

/-- The whole name of the closure. -/
def fullG (x : Nat) : List UInt8 := 95 :: 82 :: ([78, 67, 67, 49, 97] ++ 115 :: b62of x)
theorem fullG_cut (x k : Nat) (hk : k < 6) : (fullG x).take ((fullG x).length - k) = 95 :: 82 :: cutG x ((fullG x).length - 2 - k) ∧ 2 ≤ (fullG x).length - 2 - k ∧ 8 ≤ (fullG x).length := by
  have := b62of_length_pos x
  have hl : (fullG x).length = 8 + (b62of x).length := by unfold fullG; simp; omega
  refine ⟨?_, by omega, by omega⟩
  obtain ⟨j, hj⟩ : ∃ j, (fullG x).length - k = j + 2 := ⟨(fullG x).length - k - 2, by omega⟩
  rw [hj, show (fullG x).length - 2 - k = j by omega]
  rfl

theorem cutNumber_walk (w : World) (hL : Pow w w.heap.size ∧ NotM w w.heap.size) (i : Int) (hi : (Lit.int .i64 i).wf = true) (n : Int) (hn : (Lit.int .i64 n).wf = true) :
    Calls Tryd.prog 3 #[.int .i64 i, .int .i64 n] w fun e w' => e = .returned (.bool true) ∧ Below w.heap.size w w' := by
  have HA := Lib.hid (idAt_any hi (n := 1099511627776) (by decide) (by decide))
  have HA2 := Lib.hid (idAt_any hn (n := 6) (by decide) (by decide))
  obtain ⟨x, hx⟩ : ∃ x : Nat, i % 1099511627776 = (x : Int) := ⟨(i % 1099511627776).toNat, by omega⟩
  obtain ⟨k, hk⟩ : ∃ k : Nat, n % 6 = (k : Int) := ⟨(n % 6).toNat, by omega⟩
  have hx2 : x < 1099511627776 := by omega
  have hk2 : k < 6 := by omega
  rw [hx] at HA
  rw [hk] at HA2
  have hlen := b62of_length x (by omega)
  have hl : (fullG x).length = 8 + (b62of x).length := by unfold fullG; simp; omega
  obtain ⟨g1, g2, g3⟩ := fullG_cut x k hk2
  have HD := Lib.hid (dis_written (x + 1) (by omega))
  rw [show disOf (x + 1) = 115 :: b62of x by unfold disOf; rw [if_neg (by omega)]; rfl] at HD
  have hadd : ∀ W, (Op.stringOp .add ⟨#[95, 82, 78, 67, 67, 49, 97]⟩ (bs (115 :: b62of x))).run Tryd.prog W = .ok (.string (bs (fullG x))) W := add_bs [95, 82, 78, 67, 67, 49, 97] (115 :: b62of x) (by simp; omega)
  have hI := idRefused_yes hL.1 hL.2 (falls_cut (x := x) (by omega) g2)
  rw [← g1] at hI
  replace hI := Lib.hid hI
  generalize hG : fullG x = G at *
  have q1 : (k : Int) ≤ (G.length : Int) := by omega
  have q2 : wrap64 ((G.length : Int) - (k : Int)) = ((G.length - k : Nat) : Int) := by unfold wrap64; omega
  have q3 : G.length - k ≤ G.length := by omega
  clear hi hn hx hk hlen hl g1 g2 g3 hG hL
  have hx3 : (x : Int) < 1099511627776 := by omega
  clear hx2
  go_enter Tryd.func3, Tryd.ntmps3
  go_wp2_with fail
  refine (HA.out _).mono ?_
  rintro e w1 ⟨rfl, rfl⟩
  go_wp2_with (go_at_call 9; rw [show (1 + (x : Int)) = ((x + 1 : Nat) : Int) by omega]; refine (HD.out _).mono ?_; rintro e w1 ⟨rfl, rfl⟩)
  refine (HA2.out _).mono ?_
  rintro e w1 ⟨rfl, rfl⟩
  go_wp2_with (go_at_call 11; refine (hI.out).mono ?_; rintro e w2 ⟨rfl, hb2⟩)
  go_ret
  exact ⟨rfl, hb2⟩
end Go.Proofs.YtoefegbbnaonoaaDoor
