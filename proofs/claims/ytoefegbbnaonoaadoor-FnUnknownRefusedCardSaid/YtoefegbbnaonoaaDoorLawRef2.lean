/- FnUnknownRefused and FnHugeNumberRefused: the walks. -/
import Derived.Test.YtoefegbbnaonoaaDoorLawRef
namespace Go.Proofs.YtoefegbbnaonoaaDoor
open Go.RowKit Go.Lib
set_option linter.unusedVariables false
set_option maxRecDepth 100000
attribute [local go_sem] bs_size bs_toList bs_to

theorem ext_unk (k : Nat) (h : k < 46) : (ByteArray.mk #[65, 68, 69, 70, 71, 72, 74, 75, 76, 79, 80, 81, 82, 83, 84, 85, 86, 87, 90, 95, 97, 98, 99, 100, 101, 102, 103, 104, 105, 106, 107, 108, 109, 110, 111, 112, 113, 114, 115, 116, 117, 118, 119, 120, 121, 122]).extract k (k + 1) = bs [unkL k] := by
  show (bs unkTab).extract _ _ = _
  rw [bs_extract]
  congr 1
  have : ∀ j, j < 46 → (unkTab.drop j).take (j + 1 - j) = [unkL j] := by decide +kernel
  exact this _ h

set_option maxHeartbeats 1000000 in
theorem unknown_walk (w : World) (hL : Pow w w.heap.size ∧ NotM w w.heap.size) (c : UInt8) (A : Option Addr) (n cap : Nat) (l : List UInt8) (hA : Bytes w A n l) (hn : n ≤ maxLen ∧ n ≤ cap) :
    Calls Tryd.prog 5 #[.int .u8 (c.toNat : Int), .slice A n cap] w fun e w' => e = .returned (.bool true) ∧ Below w.heap.size w w' := by
  by_cases hz : 2147483647 < n
  · have hz' : decide ((2147483647:Int) < (n : Int)) = true := decide_eq_true (by omega)
    clear hz
    go_enter Tryd.func5, Tryd.ntmps5
    go_wp2_with fail
    go_ret
    exact ⟨rfl, Below.refl _ _⟩
  · have hz' : decide ((2147483647:Int) < (n : Int)) = false := decide_eq_false (by omega)
    have hk : c.toNat % 46 < 46 := by omega
    obtain ⟨k, hkk⟩ : ∃ k, c.toNat % 46 = k := ⟨_, rfl⟩
    have hk2 : k < 46 := by omega
    have HE := ext_unk k hk2
    have q1 : (c.toNat : Int).tmod 46 = (k : Int) := by rw [Int.tmod_eq_emod_of_nonneg (by omega)]; omega
    have q1' : (c.toNat : Int) % 46 = (k : Int) := by omega
    have q2 : IntKind.u8.wrap (k : Int) = (k : Int) := IntWalk.u8_in _ ⟨by omega, by omega⟩
    have q3 : IntKind.u8.wrap ((k : Int) + 1) = (k : Int) + 1 := IntWalk.u8_in _ ⟨by omega, by omega⟩
    have q4 : k + 1 ≤ 46 := by omega
    have q5 : (k : Int) + 1 ≤ 46 := by omega
    have q6 : ((k : Int) + 1).toNat = k + 1 := by omega
    have hT := hA.take (min n 1000) (by omega)
    have hpl := plainOf_plain (l.take (min n 1000))
    have hpln := plainOf_length (l.take (min n 1000)) (by simp; omega)
    have HC := Lib.hid (fun W : World => idCut_any (w := W) (A := A) hn.2)
    have HP := Lib.hid (fun (W : World) (hW : Below w.heap.size w W) => anPlain_any (cap := cap) (hT.below hW) (by omega))
    have hB := fun (W : World) (hW : Below w.heap.size w W) => idRefused_yes (w := W) ((hL.1.keep hW (Nat.le_refl _)).up hW.size (Nat.le_refl _)) (by have := hL.2.keep hW (Nat.le_refl _); exact ⟨Nat.lt_of_lt_of_le this.1 hW.size, Nat.le_refl _, this.2.2⟩) (falls_unknown (k := k) hk2 (l := plainOf (l.take (min n 1000))) hpl (by omega))
    replace hB := Lib.hid hB
    generalize plainOf (l.take (min n 1000)) = P at *
    have a1 : ∀ W, (Op.stringOp .add ⟨#[95, 82]⟩ (bs [unkL k])).run Tryd.prog W = .ok (.string (bs [95, 82, unkL k])) W := add_bs [95, 82] _ (by simp)
    have a2 : ∀ W, (Op.stringOp .add (bs [95, 82, unkL k]) (bs P)).run Tryd.prog W = .ok (.string (bs (95 :: 82 :: unkL k :: P))) W := add_bs [95, 82, unkL k] P (by simp; omega)
    clear hz hk hkk hk2 hA hT hpl hpln hL hn
    go_enter Tryd.func5, Tryd.ntmps5
    go_wp2_with fail
    go_region_with (first
      | (go_at_call 16; refine (HC.out _).mono ?_; rintro e w1 ⟨rfl, rfl⟩)
      | (go_at_call 15; refine (HP.out _ ((Below.refl _ _).drew)).mono ?_; rintro e w2 ⟨rfl, hb2⟩)
      | (go_at_call 11; refine (hB.out _ ((Below.refl _ _).drew.trans hb2)).mono ?_; rintro e w3 ⟨rfl, hb3⟩))
    all_goals
      go_wp2
      go_ret
      exact ⟨rfl, ((Below.refl _ _).drew.trans hb2).trans (hb3.mono hb2.size)⟩
end Go.Proofs.YtoefegbbnaonoaaDoor
