/- FnBase62Read: the walk. -/
import Derived.Test.YtjlnnedofnefkaaDoorLaw
import Derived.Test.YtjlnnedofnefkaaSpecB62
import Derived.Deep.RegionWith
namespace Go.Proofs.Ytjlnnedofnefkaa
open Go.RowKit
set_option linter.unusedVariables false
set_option maxRecDepth 100000
attribute [local go_sem] bs_size bs_toList

/-- The remainder as a natural number. -/
theorem idAt_nat {i n : Int} (hi : (Lit.int .i64 i).wf = true) (h0 : 0 < n) (hn : n ≤ big62) :
    ∃ k : Nat, (k : Int) < n ∧ (k : Int) = i % n ∧ ∀ W, Calls Try.prog 15 #[.int .i64 i, .int .i64 n] W fun e w' => e = .returned (.int .i64 (k : Int)) ∧ W = w' := by
  have h1 := Int.emod_nonneg i (show n ≠ 0 by omega)
  have h2 := Int.emod_lt_of_pos i h0
  refine ⟨(i % n).toNat, by omega, by omega, fun W => ?_⟩
  have e : ((i % n).toNat : Int) = i % n := by omega
  rw [e]
  exact idAt_any hi h0 hn W

set_option maxHeartbeats 2000000 in
theorem base62Read_walk (w : World) (i : Int) (hi : (Lit.int .i64 i).wf = true) (A : Option Addr) (n c : Nat) (l : List UInt8) (h : Bytes w A n l) (hn : n ≤ maxLen) :
    Calls Try.prog 6 #[.int .i64 i, .slice A n c] w fun e w' => e = .returned (.bool true) ∧ Below w.heap.size w w' := by
  have hcv := Bytes.convert (w := w.drew) h c (P := Try.prog) Try.underlying22 Try.underlying5 Try.underlying9
  obtain ⟨rfl, h⟩ := h
  clear h
  unfold maxLen at hn
  by_cases hz : 2147483647 < l.length
  · go_enter Try.func6, Try.ntmps6
    go_wp2_with fail
    go_ret
    exact ⟨rfl, Below.refl _ _⟩
  · have hz' : l.length ≤ 2147483647 := by omega
    clear hz
    obtain ⟨k, hk, -, hat⟩ := idAt_nat (n := 4611686018427387904) hi (by decide) (by unfold big62; decide)
    have HA := Lib.hid hat
    have hk' : k ≤ 4611686018427387904 := by omega
    have HB := Lib.hid (base62_written k (by omega))
    have hlen := b62of_length k (by omega)
    have hadd := add_bs (P := Try.prog) (b62of k) l (by omega)
    have HD := Lib.hid (fun W => doorNumber_yes (s := bs (b62of k ++ l)) (n := k) (l := l) (by rw [bs_data]; exact b62_read hk' l) (by rw [bs_size, List.length_append]; omega) W)
    clear hat hk hlen hi
    go_enter Try.func6, Try.ntmps6
    go_wp2_with (go_at_call 15; refine Calls.mono (HA.out w) ?_; rintro e w2 ⟨rfl, rfl⟩)
    have hw : IntKind.u64.wrap (k : Int) = (k : Int) := IntWalk.u64_in _ ⟨by omega, by omega⟩
    go_region_with (first | (go_at_call 14; refine (HB.out _).mono ?_; rintro e w2 ⟨rfl, rfl⟩) | (go_at_call 12; refine (HD.out _).mono ?_; rintro e w2 ⟨rfl, hb2⟩))
    all_goals go_wp2
    all_goals go_ret
    all_goals exact ⟨rfl, (Below.refl _ _).drew.trans hb2⟩
end Go.Proofs.Ytjlnnedofnefkaa
