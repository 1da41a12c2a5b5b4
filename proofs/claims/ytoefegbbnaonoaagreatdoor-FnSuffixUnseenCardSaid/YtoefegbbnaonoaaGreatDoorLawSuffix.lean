/- FnSuffixUnseen: the walk. -/
import Derived.Test.YtoefegbbnaonoaaGreatDoorLawInst
import Derived.Test.YtoefegbbnaonoaaGreatDoorRtsDot
namespace Go.Proofs.YtoefegbbnaonoaaGreatDoor
open Go.RowKit Go.Lib
set_option linter.unusedVariables false
set_option maxRecDepth 100000
attribute [local go_sem] bs_size bs_toList

set_option maxHeartbeats 2000000 in
theorem suffix_walk (w : World) (hP : Pow w w.heap.size) (A1 : Option Addr) (n1 cap1 : Nat) (l1 : List UInt8) (hA1 : Bytes w A1 n1 l1) (hn1 : n1 ≤ maxLen ∧ n1 ≤ cap1)
    (A2 : Option Addr) (n2 cap2 : Nat) (l2 : List (List UInt8)) (hA2 : NamesAt w A2 n2 l2) (hn2 : n2 ≤ maxLen ∧ n2 ≤ cap2) (A3 : Option Addr) (n3 cap3 : Nat) (l3 : List UInt8) (hA3 : Bytes w A3 n3 l3) (hn3 : n3 ≤ maxLen ∧ n3 ≤ cap3)
    (A4 : Option Addr) (n4 cap4 : Nat) (l4 : List UInt8) (hA4 : Bytes w A4 n4 l4) (hn4 : n4 ≤ maxLen ∧ n4 ≤ cap4) :
    Calls Tryz.prog 3 #[.slice A1 n1 cap1, .slice A2 n2 cap2, .slice A3 n3 cap3, .slice A4 n4 cap4] w fun e w' => e = .returned (.bool true) ∧ Below w.heap.size w w' := by
  have HF := Lib.hid (zzFits1_any (cap := cap2) hA2 hn2.1)
  have b3 := hn3.1
  have b1 := hn1.1
  have b4 := hn4.1
  unfold maxLen at b1 b3 b4
  by_cases h1 : 2147483647 < n1
  · clear hA1 hA2 hA3 hA4
    go_enter Tryz.func3, Tryz.ntmps3
    go_wp2_with fail
    go_ret
    exact ⟨rfl, Below.refl _ _⟩
  · cases hfit : fitsN l2 with
    | false =>
      rw [hfit] at HF
      clear hA1 hA2 hA3 hA4
      go_enter Tryz.func3, Tryz.ntmps3
      go_wp2_with (go_at_call 9; refine (HF.out).mono ?_; rintro e w2 ⟨rfl, rfl⟩)
      go_ret
      exact ⟨rfl, Below.refl _ _⟩
    | true =>
      rw [hfit] at HF
      clear hfit
      by_cases h3 : 2147483647 < n3
      · clear hA1 hA2 hA3 hA4
        go_enter Tryz.func3, Tryz.ntmps3
        go_wp2_with (go_at_call 9; refine (HF.out).mono ?_; rintro e w2 ⟨rfl, rfl⟩)
        go_ret
        exact ⟨rfl, Below.refl _ _⟩
      · by_cases h4 : 2147483647 < n4
        · clear hA1 hA2 hA3 hA4
          go_enter Tryz.func3, Tryz.ntmps3
          go_wp2_with (go_at_call 9; refine (HF.out).mono ?_; rintro e w2 ⟨rfl, rfl⟩)
          go_ret
          exact ⟨rfl, Below.refl _ _⟩
        · have HC := Lib.hid (fun (W : World) (A : Option Addr) (n c : Nat) (h : n ≤ c) => idCut_any (w := W) (A := A) h)
          have HPl := Lib.hid (anPlain_any (cap := cap1) (hA1.take (min n1 1000) (by omega)) (by omega))
          have hcut : l1.take (min n1 1000) = cutOf l1 := by unfold cutOf; rw [hA1.1]
          rw [hcut] at HPl
          have HPo := Lib.hid (fun (W : World) (hW : Below w.heap.size w W) => anPlain_any (cap := cap4) ((hA4.below hW).take (min n4 1000) (by omega)) (by omega))
          have hcut2 : l4.take (min n4 1000) = cutOf l4 := by unfold cutOf; rw [hA4.1]
          rw [hcut2] at HPo
          have HSm := Lib.hid (fun (W : World) (hW : Below w.heap.size w W) => idSmall_any (C := none) (r := 0) (zs := []) (cn := cap2) (cm := cap3) (cr := 0) (hA2.below hW) hn2.1 (hA3.below hW) hn3.1 ⟨rfl, by simp, .inl rfl⟩ (by simp [maxLen]))
          have hps := partK_ok l2 l3 [] l2.length
          have hpn := partK_len l2 l3 [] l2.length
          have hnm := plainK l2 l3 [] l2.length
          have hc := nameOk_plain l1
          have hc0 : plainOf (cutOf l1) ≠ [] := plainOf_pos _
          have hol := plainOf_length _ (cutOf_le l4)
          clear hcut hcut2 hA1 hA2 hA3 hA4
          generalize partK l2 l3 [] l2.length = ps at *
          generalize plainOf (cutOf l1) = crate at *
          generalize plainOf (cutOf l4) = other at *
          have hsay := names_say hc0 hc (cd := 0) (by decide) _ (rev_ok hps) (by rw [List.length_reverse]; omega)
          have hl := symR_len hc (cd := 0) (by decide) _ true (rev_ok hps)
          rw [List.length_reverse] at hl
          have HS := Lib.hid (fun (W : World) (g cap : Nat) (hW : Below w.heap.size w W) (hpa : PartsAt W g ps) => idSymbol_any (cap := cap) (hP.keepB hW) hc (cd := 0) (by decide) hps (by omega) hpa)
          have HT := Lib.hid (fun (W : World) (g cap : Nat) (hW : Below w.heap.size w W) (hpa : PartsAt W g ps) => idText_any (cap := cap) (hP.keepB hW) hc hps (by omega) hpa)
          have ha : ∀ W, (Op.stringOp .add ⟨#[95, 82]⟩ (bs (symR crate 0 true ps.reverse))).run Tryz.prog W = .ok (.string (bs (95 :: 82 :: symR crate 0 true ps.reverse))) W := add_bs [95, 82] _ (by simp at hl ⊢; omega)
          have ha2 : ∀ W, (Op.stringOp .add (bs (95 :: 82 :: symR crate 0 true ps.reverse)) ⟨#[46]⟩).run Tryz.prog W = .ok (.string (bs (95 :: 82 :: symR crate 0 true ps.reverse ++ [46]))) W := add_bs (95 :: 82 :: symR crate 0 true ps.reverse) [46] (by simp only [List.length_cons, List.length_nil]; omega)
          have ha3 : ∀ W, (Op.stringOp .add (bs (95 :: 82 :: symR crate 0 true ps.reverse ++ [46])) (bs other)).run Tryz.prog W = .ok (.string (bs (95 :: 82 :: symR crate 0 true ps.reverse ++ 46 :: other))) W := fun W => by
            rw [add_bs (95 :: 82 :: symR crate 0 true ps.reverse ++ [46]) _ (by simp only [List.length_cons, List.length_append, List.length_nil]; omega) W, List.append_assoc]
            rfl
          generalize symR crate 0 true ps.reverse = S at *
          generalize hX : 95 :: 82 :: S = X at *
          generalize X ++ [46] = X2 at *
          generalize textR crate ps.reverse = T at *
          have HId := Lib.hid (fun (W : World) (hW : Below w.heap.size w W) => idTold_dot (w := W) (t := other) ((hP.keep hW (Nat.le_refl _)).up hW.size (Nat.le_refl _)) hsay (by simp only [List.length_cons]; omega))
          generalize X ++ 46 :: other = X3 at *
          have c1 := hn1.2
          have c4 := hn4.2
          clear hps hc hc0 hsay hl hP hpn hol hnm hX
          go_enter Tryz.func3, Tryz.ntmps3
          go_wp2_with (first
            | (go_at_call 13; refine (HId.out _ hb8).mono ?_; rintro e wz ⟨rfl, hbz⟩; replace hbz := hb8.trans (hbz.mono hb8.size))
            | (go_at_call 15; refine (HT.out _ _ _ hb7 hpa).mono ?_; rintro e w8 ⟨rfl, hb8⟩; replace hb8 := hb7.trans (hb8.mono hb7.size))
            | (go_at_call 10; refine (HPo.out _ hb5).mono ?_; rintro e w7 ⟨rfl, hb7⟩; replace hpa := hpa.below hb7; replace hb7 := hb5.trans (hb7.mono hb5.size))
            | (go_at_call 14; refine (HS.out _ _ _ hb4 hpa).mono ?_; rintro e w5 ⟨rfl, hb5⟩; replace hpa := hpa.below hb5; replace hb5 := hb4.trans (hb5.mono hb4.size))
            | (go_at_call 12; refine (HSm.out _ hb3).mono ?_; rintro e w4 ⟨v, rfl, ho, hb4⟩; obtain ⟨g, cp, rfl, hpa⟩ := ho.parts; replace hb4 := hb3.trans (hb4.mono hb3.size))
            | (go_at_call 10; refine (HPl.out).mono ?_; rintro e w3 ⟨rfl, hb3⟩)
            | (go_at_call 11; refine (HC.out _ _ _ _ (by assumption)).mono ?_; rintro e w2 ⟨rfl, rfl⟩)
            | (go_at_call 9; refine (HF.out).mono ?_; rintro e w2 ⟨rfl, rfl⟩))
          go_ret
          exact ⟨rfl, hbz⟩
end Go.Proofs.YtoefegbbnaonoaaGreatDoor
