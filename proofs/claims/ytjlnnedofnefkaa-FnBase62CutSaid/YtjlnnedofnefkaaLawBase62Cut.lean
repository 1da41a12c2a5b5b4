/- FnBase62Cut: the walk. -/
import Derived.Test.YtjlnnedofnefkaaLawBase62Read
namespace Go.Proofs.Ytjlnnedofnefkaa
open Go.RowKit
set_option linter.unusedVariables false
set_option maxRecDepth 100000
attribute [local go_sem] bs_size bs_toList bs_to

theorem base62Cut_walk (w : World) (i : Int) (hi : (Lit.int .i64 i).wf = true) (j : Int) (hj : (Lit.int .i64 j).wf = true) :
    Calls Try.prog 5 #[.int .i64 i, .int .i64 j] w fun e w' => e = .returned (.bool true) ∧ Below w.heap.size w w' := by
  obtain ⟨k, hk, -, hat⟩ := idAt_nat (n := 4611686018427387904) hi (by decide) (by unfold big62; decide)
  have hlen := b62of_length k (by omega)
  have hpos := b62of_length_pos k
  obtain ⟨m, hm, -, hat2⟩ := idAt_nat (n := ((b62of k).length : Int)) hj (by omega) (by unfold big62; have := hlen; omega)
  have HA := Lib.hid hat
  have HA2 := Lib.hid hat2
  have hk' : k ≤ 4611686018427387904 := by omega
  have HB := Lib.hid (base62_written k (by omega))
  have HI := Lib.hid (fun W => base62_impl (r := none) (s := bs ((b62of k).take m)) (by rw [bs_data]; exact b62_cut (by omega)) (by rw [bs_size, List.length_take]; have := hlen; omega) W)
  have HD := Lib.hid (fun W => doorNumber_yes (s := bs [48, 95]) (n := 1) (l := []) (by rw [bs_data]; decide +kernel) (by decide) W)
  clear hat hat2 hi hj hk
  have hw : IntKind.u64.wrap (k : Int) = (k : Int) := IntWalk.u64_in _ ⟨by omega, by omega⟩
  go_enter Try.func5, Try.ntmps5
  go_wp2_with (first | (go_at_call 14; refine (HB.out _).mono ?_; rintro e w2 ⟨rfl, rfl⟩) | (go_at_call 12; refine (HD.out _).mono ?_; rintro e w3 ⟨rfl, hb3⟩) | (go_at_call 13; refine (HI.out _).mono ?_; rintro e w2 ⟨rfl, hb2⟩) | (go_at_call 15; with_reducible refine (HA.out _).mono ?_; rintro e w2 ⟨rfl, rfl⟩) | (go_at_call 15; with_reducible refine (HA2.out _).mono ?_; rintro e w2 ⟨rfl, rfl⟩))
  go_ret
  exact ⟨rfl, hb2.trans (hb3.mono hb2.size)⟩
end Go.Proofs.Ytjlnnedofnefkaa
