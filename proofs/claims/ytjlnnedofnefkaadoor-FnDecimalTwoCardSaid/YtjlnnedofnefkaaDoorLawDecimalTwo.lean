/- FnDecimalTwo: the walk. -/
import Derived.Test.YtjlnnedofnefkaaDoorGateLaw
import Derived.Test.YtjlnnedofnefkaaDoorItoa
import Derived.Test.YtjlnnedofnefkaaDoorSpecB62
namespace Go.Proofs.YtjlnnedofnefkaaDoor
open Go.RowKit Go.Lib
set_option linter.unusedVariables false
set_option maxRecDepth 100000
attribute [local go_sem] bs_size bs_toList bs_from bs_to

theorem anNumber_any {w : World} {B : Nat} (h : Pow w B) (n : Nat) (hn : n ≤ 9223372036854775807) :
    Calls Tryd.prog 15 #[.int .i64 (n : Int)] w fun e w' => e = .returned (.string (bs (decDigits n))) ∧ Below w.heap.size w w' := by
  have H := Lib.hid (itoa_any h n hn)
  clear h hn
  go_enter Tryd.func15, Tryd.ntmps15
  go_wp2_with (go_at_call 27; refine (H.out).mono ?_; rintro e w2 ⟨rfl, hb2⟩)
  go_ret
  exact ⟨rfl, hb2⟩

theorem nat_of_mod {i n : Int} (h0 : 0 < n) : ∃ k : Nat, i % n = (k : Int) ∧ (k : Int) < n :=
  ⟨(i % n).toNat, by have := Int.emod_nonneg i (show n ≠ 0 by omega); omega, by have := Int.emod_nonneg i (show n ≠ 0 by omega); have := Int.emod_lt_of_pos i h0; omega⟩

set_option maxHeartbeats 400000 in
theorem decimalTwo_walk (w : World) (hp : Pow w w.heap.size) (i : Int) (hi : (Lit.int .i64 i).wf = true) (j : Int) (hj : (Lit.int .i64 j).wf = true) (c : UInt8) :
    Calls Tryd.prog 5 #[.int .i64 i, .int .i64 j, .int .u8 (c.toNat : Int)] w fun e w' => e = .returned (.bool true) ∧ Below w.heap.size w w' := by
  obtain ⟨a, ea, ha⟩ := nat_of_mod (i := i) (n := 1000000000) (by decide)
  obtain ⟨b, eb, hb⟩ := nat_of_mod (i := j) (n := 1000000000) (by decide)
  have HA := idAt_any (n := 1000000000) hi (by decide) (by unfold big62; decide)
  have HB := idAt_any (n := 1000000000) hj (by decide) (by unfold big62; decide)
  rw [ea] at HA
  rw [eb] at HB
  have HA := Lib.hid HA
  have HB := Lib.hid HB
  clear hi hj ea eb
  obtain ⟨L, hL⟩ : ∃ L : UInt8, 97 + (c.toNat : Int) % 26 = (L.toNat : Int) := ⟨UInt8.ofNat (97 + c.toNat % 26), by rw [UInt8.toNat_ofNat']; omega⟩
  have hLd : isDig L = false := decide_eq_false (by omega)
  have hcv := fun W : World => convert_one Tryd.underlying29 Tryd.underlying5 Tryd.underlying9 W hL 5
  have hla := decDigits_len 9 a (by omega)
  have hlb := decDigits_len 9 b (by omega)
  have HB1 := Lib.hid (show Below w.heap.size w (w.alloc (.cells #[.int .u8 (97 + (c.toNat : Int) % 26)] 5)) from (Below.refl _ _).alloc (Nat.le_refl _) _)
  have HNa := Lib.hid (anNumber_any (B := w.heap.size) (hp.keep HB1.out (Nat.le_refl _)) a (by omega))
  have HNb := Lib.hid (fun (W : World) (hb : Below w.heap.size w W) => anNumber_any (w := W) (B := w.heap.size) (hp.keep hb (Nat.le_refl _)) b (by omega))
  have ha1 : ∀ W, (Op.stringOp .add (bs (decDigits a)) (bs [L])).run Tryd.prog W = .ok (.string (bs (decDigits a ++ [L]))) W := add_bs _ _ (by simp; omega)
  have ha2 : ∀ W, (Op.stringOp .add (bs (decDigits a ++ [L])) (bs (decDigits b))).run Tryd.prog W = .ok (.string (bs (decDigits a ++ L :: decDigits b))) W := fun W => by
    rw [add_bs _ _ (by simp; omega) W]; simp
  have HD := Lib.hid (fun W : World => decimal_impl (s := bs (decDigits a ++ L :: decDigits b)) (r := some ((a : Int), L :: decDigits b)) (by rw [bs_data]; exact dec_read (by omega) (by rintro _ _ h; cases h; exact hLd)) (by rw [bs_size]; simp; omega) W)
  have HE := Lib.hid (fun W : World => doorDecimal_yes (s := bs (decDigits b)) (n := b) (l := []) (by rw [bs_data]; have := dec_read (n := b) (by omega) (t := []) (by rintro _ _ h; cases h); simpa using this) (by rw [bs_size]; omega) W)
  have e1 : ((a : Int) == (a : Int)) = true := by simp
  have e2 : (L == L) = true := by simp
  clear hla hlb hL hLd hp ha hb
  have hex : (bs (L :: decDigits b)).extract 1 ((decDigits b).length + 1) = bs (decDigits b) := bs_from (L :: decDigits b) 1
  have HBel : Below w.heap.size w w := Below.refl _ _
  go_enter Tryd.func5, Tryd.ntmps5
  go_wp2_with (first
    | (go_at_call 13; with_reducible refine (HA.out _).mono ?_; rintro e w2 ⟨rfl, rfl⟩)
    | (go_at_call 13; with_reducible refine (HB.out _).mono ?_; rintro e w2 ⟨rfl, rfl⟩)
    | (go_at_call 15; with_reducible refine (HNa.out).mono ?_; rintro e w2 ⟨rfl, hb2⟩; replace HBel : Below w.heap.size w w2 := HB1.out.trans (hb2.mono HB1.out.size))
    | (go_at_call 15; with_reducible refine (HNb.out _ HBel).mono ?_; rintro e w3 ⟨rfl, hb3⟩; replace HBel : Below w.heap.size w w3 := HBel.trans (hb3.mono HBel.size))
    | (go_at_call 14; refine (HD.out _).mono ?_; rintro e w4 ⟨rfl, hb4⟩; replace HBel : Below w.heap.size w w4 := HBel.trans (hb4.mono HBel.size))
    | (go_at_call 16; refine (HE.out _).mono ?_; rintro e w4 ⟨rfl, hb4⟩; replace HBel : Below w.heap.size w w4 := HBel.trans (hb4.mono HBel.size)))
  go_ret
  exact ⟨rfl, HBel⟩
end Go.Proofs.YtjlnnedofnefkaaDoor
