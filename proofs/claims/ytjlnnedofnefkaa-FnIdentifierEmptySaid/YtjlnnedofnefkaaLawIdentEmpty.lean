/- FnIdentifierEmpty: the walk. -/
import Derived.Test.YtjlnnedofnefkaaDoorIdent
import Derived.Test.YtjlnnedofnefkaaIdentRead
import Derived.Test.YtjlnnedofnefkaaLawBase62Read
namespace Go.Proofs.Ytjlnnedofnefkaa
open Go.RowKit
set_option linter.unusedVariables false
set_option maxRecDepth 100000
attribute [local go_sem] bs_size bs_toList

set_option maxHeartbeats 2000000 in
theorem identEmpty_walk (w : World) (i : Int) (hi : (Lit.int .i64 i).wf = true) (A : Option Addr) (n c : Nat) (l : List UInt8) (h : Bytes w A n l) (hn : n ≤ maxLen) :
    Calls Try.prog 9 #[.int .i64 i, .slice A n c] w fun e w' => e = .returned (.bool true) ∧ Below w.heap.size w w' := by
  have hcv := Bytes.convert (w := w.drew) h c (P := Try.prog) Try.underlying22 Try.underlying5 Try.underlying9
  obtain ⟨rfl, h⟩ := h
  clear h
  unfold maxLen at hn
  by_cases hz : 2147483647 < l.length
  · go_enter Try.func9, Try.ntmps9
    go_wp2_with fail
    go_ret
    exact ⟨rfl, Below.refl _ _⟩
  · have hz' : l.length ≤ 2147483647 := by omega
    clear hz
    obtain ⟨k, hk, -, hat⟩ := idAt_nat (n := 1099511627776) hi (by decide) (by unfold big62; decide)
    have HA := Lib.hid hat
    have hk' : k ≤ 4611686018427387904 := by omega
    have HB := Lib.hid (dis_written k (by omega))
    have hlen := disOf_length k (by omega)
    have hadd0 : ∀ W, (Op.stringOp .add ⟨#[69]⟩ (bs l)).run Try.prog W = .ok (.string (bs (69 :: l))) W := add_bs [69] l (by simp; omega)
    have hadd1 : ∀ W, (Op.stringOp .add (bs (disOf k)) ⟨#[48]⟩).run Try.prog W = .ok (.string (bs (disOf k ++ [48]))) W := add_bs (disOf k) [48] (by simp; omega)
    have hadd2 : ∀ W, (Op.stringOp .add (bs (disOf k ++ [48])) (bs (69 :: l))).run Try.prog W = .ok (.string (bs (disOf k ++ 48 :: 69 :: l))) W := fun W => by
      rw [add_bs (disOf k ++ [48]) (69 :: l) (by simp; omega) W]
      simp
    have hid : ident (48 :: 69 :: l) = some ([], 69 :: l) := ident_empty (by rintro c u h; cases h; exact ⟨by decide, by decide⟩)
    have hs : ∀ u, (48 :: 69 :: l : List UInt8) ≠ 115 :: u := fun u h => by cases h
    have HD := Lib.hid (fun W => doorIdentifier_yes (s := bs (disOf k ++ 48 :: 69 :: l)) (n := k) (nm := []) (l := 69 :: l) (by rw [bs_data]; exact identAll_read hk' hs hid) (by rw [bs_data]; exact noUIn_read hk' hs (fun u h => by cases h)) (by rw [bs_size]; simp; omega) W)
    clear hat hi hlen hid hs hk
    have hw : IntKind.u64.wrap (k : Int) = (k : Int) := IntWalk.u64_in _ ⟨by omega, by omega⟩
    go_enter Try.func9, Try.ntmps9
    go_wp2_with fail
    go_region_with (go_at_call 15; refine (HA.out _).mono ?_; rintro e w2 ⟨rfl, rfl⟩)
    all_goals go_wp2_with (first | (go_at_call 26; refine (HB.out _).mono ?_; rintro e w2 ⟨rfl, rfl⟩) | (go_at_call 25; refine (HD.out _).mono ?_; rintro e w2 ⟨rfl, hb2⟩))
    all_goals go_ret
    all_goals exact ⟨rfl, (Below.refl _ _).drew.trans hb2⟩
end Go.Proofs.Ytjlnnedofnefkaa
