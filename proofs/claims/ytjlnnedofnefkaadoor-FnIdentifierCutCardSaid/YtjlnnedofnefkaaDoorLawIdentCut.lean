/- FnIdentifierCut: the walk. -/
import Derived.Test.YtjlnnedofnefkaaDoorWritten
import Derived.Test.YtjlnnedofnefkaaDoorGateIdent
import Derived.Test.YtjlnnedofnefkaaDoorSpecB62
namespace Go.Proofs.YtjlnnedofnefkaaDoor
open Go.RowKit Go.Lib
set_option linter.unusedVariables false
set_option maxRecDepth 100000
attribute [local go_sem] bs_size bs_toList

theorem int_nat_mod {i n : Int} (h0 : 0 < n) : ∃ k : Nat, i % n = (k : Int) ∧ (k : Int) < n :=
  ⟨(i % n).toNat, by have := Int.emod_nonneg i (show n ≠ 0 by omega); omega, by have := Int.emod_nonneg i (show n ≠ 0 by omega); have := Int.emod_lt_of_pos i h0; omega⟩

set_option maxHeartbeats 2000000 in
theorem identCut_walk (w : World) (hp : Pow w w.heap.size) (A : Option Addr) (n c : Nat) (l : List UInt8) (h : Bytes w A n l) (hn : n ≤ maxLen ∧ n ≤ c) (i : Int) (hi : (Lit.int .i64 i).wf = true) (j : Int) (hj : (Lit.int .i64 j).wf = true) :
    Calls Tryd.prog 7 #[.slice A n c, .int .i64 i, .int .i64 j] w fun e w' => e = .returned (.bool true) ∧ Below w.heap.size w w' := by
  unfold maxLen at hn
  by_cases hz : 2147483647 < n
  · go_enter Tryd.func7, Tryd.ntmps7
    go_wp2_with fail
    go_ret
    exact ⟨rfl, Below.refl _ _⟩
  have hI := fun W : World => idCut_any (w := W) (A := A) hn.2
  have hW := anPlain_any (cap := c) (h.take (min n 1000) (by omega)) (by omega)
  have hlen : (l.take (min n 1000)).length ≤ 1000 := by simp; omega
  generalize min n 1000 = m at hI hW hlen
  generalize l.take m = t at hW hlen
  have hkl := plainOf_length t hlen
  have hWr := fun (W : World) (hb : Below w.heap.size w W) => idWritten_any (hp.keep hb (Nat.le_refl _)) (plainOf_pos t) (plainOf_plain t) (by omega)
  obtain ⟨k, ek, hk⟩ := int_nat_mod (i := i) (n := 1099511627776) (by decide)
  have hA := idAt_any (n := 1099511627776) hi (by decide) (by unfold big62; decide)
  rw [ek] at hA
  have hB := dis_written k (by omega)
  have hdl := disOf_length k (by omega)
  have hbt := between_ok (plainOf t)
  have hpos := plainOf_pos t
  have hcl : (counted (between (plainOf t)) (plainOf t)).length ≤ 2000 := by
    unfold counted
    have := decDigits_len 9 (plainOf t).length (by omega)
    rcases hbt with h | ⟨h, _⟩ <;> rw [h] <;> simp <;> omega
  have hcp : 0 < (counted (between (plainOf t)) (plainOf t)).length := by
    unfold counted
    have := decDigits_pos (plainOf t).length
    cases h : decDigits (plainOf t).length with
    | nil => exact absurd h this
    | cons _ _ => simp
  obtain ⟨s, hs⟩ : ∃ s, disOf k ++ counted (between (plainOf t)) (plainOf t) = s := ⟨_, rfl⟩
  have hsl : 0 < s.length ∧ s.length ≤ 3000 := by rw [← hs]; simp only [List.length_append]; omega
  obtain ⟨q, eq, hq⟩ := int_nat_mod (i := j) (n := (s.length : Int)) (by omega)
  have hC := idAt_any (n := (s.length : Int)) hj (by omega) (by unfold big62; omega)
  rw [eq] at hC
  have hq' : q < s.length := by omega
  obtain ⟨hid1, hid2⟩ := identAll_cut (k := k) (by omega) hbt hpos (by omega) (j := q) (by rw [hs]; exact hq')
  rw [hs] at hid1 hid2
  have hadd : ∀ W, (Op.stringOp .add (bs (disOf k)) (bs (counted (between (plainOf t)) (plainOf t)))).run Tryd.prog W = .ok (.string (bs s)) W := fun W => by rw [add_bs _ _ (by omega) W, hs]
  generalize counted (between (plainOf t)) (plainOf t) = y at hWr hcl hcp hadd hs
  generalize plainOf t = x at hW hWr hkl hbt hpos
  have hex : (bs s).extract 0 q = bs (s.take q) := bs_to s q
  have HD := Lib.hid (fun W : World => ident_impl (s := bs (s.take q)) (r := none) (by rw [bs_data]; exact hid1) (by rw [bs_data]; exact hid2) (by rw [bs_size]; simp; omega) W)
  have HE := Lib.hid (fun W : World => doorIdentifier_yes (s := ⟨#[49, 97]⟩) (n := 0) (nm := [97]) (l := []) (by kernel_rfl) (by intro d t h; rw [show disa (ByteArray.mk #[49, 97]).data.toList = some (0, [49, 97]) by kernel_rfl] at h; simp at h; rw [← h.2]; intro x hx; cases hx) (by decide) W)
  have hw : IntKind.u64.wrap (k : Int) = (k : Int) := IntWalk.u64_in _ ⟨by omega, by omega⟩
  have HI := Lib.hid hI
  have HW := Lib.hid hW
  have HA := Lib.hid hA
  have HB := Lib.hid hB
  have HC := Lib.hid hC
  have HWr := Lib.hid hWr
  have hq2 : (q : Int) ≤ (s.length : Int) := by omega
  clear hI hW hA hB hC hWr h hp hid1 hid2 hcl hcp hlen hkl hn hs hsl hdl hk hbt hpos hi hj hq ek eq hq'
  go_enter Tryd.func7, Tryd.ntmps7
  go_wp2_with (first
    | (go_at_call 13; with_reducible refine (HA.out _).mono ?_; rintro e w2 ⟨rfl, rfl⟩)
    | (go_at_call 13; with_reducible refine (HC.out _).mono ?_; rintro e w2 ⟨rfl, rfl⟩)
    | (go_at_call 21; refine (HB.out _).mono ?_; rintro e w2 ⟨rfl, rfl⟩)
    | (go_at_call 18; refine (HI.out _).mono ?_; rintro e w2 ⟨rfl, rfl⟩)
    | (go_at_call 23; refine (HW.out).mono ?_; rintro e w1 ⟨rfl, hb1⟩)
    | (go_at_call 22; refine (HWr.out _ hb1).mono ?_; rintro e w2 ⟨rfl, hb2⟩; replace hb2 := hb1.trans (hb2.mono hb1.size))
    | (go_at_call 24; refine (HD.out _).mono ?_; rintro e w3 ⟨rfl, hb3⟩; replace hb3 := hb2.trans (hb3.mono hb2.size))
    | (go_at_call 19; refine (HE.out _).mono ?_; rintro e w4 ⟨rfl, hb4⟩; replace hb4 := hb3.trans (hb4.mono hb3.size)))
  go_ret
  exact ⟨rfl, hb4⟩
end Go.Proofs.YtjlnnedofnefkaaDoor
