/- FnDisambiguatorsUnseen: the walk. -/
import Derived.Test.YtoefegbbnaonoaaGreatDoorSmall2
import Derived.Test.YtoefegbbnaonoaaGreatDoorText
import Derived.Test.YtoefegbbnaonoaaGreatDoorNames
import Derived.Test.YtoefegbbnaonoaaGreatDoorLaidC
namespace Go.Proofs.YtoefegbbnaonoaaGreatDoor
open Go.RowKit Go.Lib
set_option linter.unusedVariables false
set_option maxRecDepth 100000
attribute [local go_sem] bs_size bs_toList

theorem disAt_le (zs : List Int) (i : Nat) : disAt zs i ≤ 4611686018427387904 := by
  unfold disAt
  split
  · omega
  · omega
theorem low_of {l : List UInt8} {i : Nat} : isLow (spaceOf l i 97) = true := by
  have key : ∀ c : UInt8, isLow (97 + c % 26) = true := by
    intro c
    refine decide_eq_true ?_
    have h2 : (97 + c % 26 : UInt8).toNat = 97 + c.toNat % 26 := by
      rw [UInt8.toNat_add, UInt8.toNat_mod, show (97 : UInt8).toNat = 97 from rfl, show (26 : UInt8).toNat = 26 from rfl]; omega
    rw [h2]
    omega
  unfold spaceOf
  split
  · exact key 2
  · exact key _
theorem nameOk_plain (l : List UInt8) : NameOk (plainOf (cutOf l)) := ⟨plainOf_plain _, by have := plainOf_length _ (cutOf_le l); omega⟩
theorem partK_ok (names : List (List UInt8)) (sp : List UInt8) (zs : List Int) (k : Nat) : ∀ p ∈ partK names sp zs k, PartOk p := by
  intro p hp
  obtain ⟨i, _, rfl⟩ := List.mem_map.1 hp
  refine ⟨?_, nameOk_plain _, disAt_le _ _⟩
  show (isLow (spaceOf sp i 97) || isUp (spaceOf sp i 97)) = true
  rw [low_of]
  rfl
theorem rev_ok {ps : List Part} (h : ∀ p ∈ ps, PartOk p) : ∀ p ∈ ps.reverse, PartOk p := fun p hp => h p (List.mem_reverse.1 hp)

set_option maxHeartbeats 2000000 in
theorem disUnseen_walk (w : World) (hP : Pow w w.heap.size) (A1 : Option Addr) (n1 cap1 : Nat) (l1 : List UInt8) (hA1 : Bytes w A1 n1 l1) (hn1 : n1 ≤ maxLen ∧ n1 ≤ cap1) (i : Int) (hi : (Lit.int .i64 i).wf = true)
    (A2 : Option Addr) (n2 cap2 : Nat) (l2 : List (List UInt8)) (hA2 : NamesAt w A2 n2 l2) (hn2 : n2 ≤ maxLen ∧ n2 ≤ cap2) (A3 : Option Addr) (n3 cap3 : Nat) (l3 : List UInt8) (hA3 : Bytes w A3 n3 l3) (hn3 : n3 ≤ maxLen ∧ n3 ≤ cap3)
    (A4 : Option Addr) (n4 cap4 : Nat) (l4 : List Int) (hA4 : IntsAt w A4 n4 l4) (hn4 : n4 ≤ maxLen ∧ n4 ≤ cap4) :
    Calls Tryz.prog 5 #[.slice A1 n1 cap1, .int .i64 i, .slice A2 n2 cap2, .slice A3 n3 cap3, .slice A4 n4 cap4] w fun e w' => e = .returned (.bool true) ∧ Below w.heap.size w w' := by
  have HF := Lib.hid (zzFits1_any (cap := cap2) hA2 hn2.1)
  have b3 := hn3.1
  have b1 := hn1.1
  have b4 := hn4.1
  unfold maxLen at b1 b3 b4
  by_cases h1 : 2147483647 < n1
  · clear hA1 hA2 hA3 hA4
    go_enter Tryz.func5, Tryz.ntmps5
    go_wp2_with fail
    go_ret
    exact ⟨rfl, Below.refl _ _⟩
  · cases hfit : fitsN l2 with
    | false =>
      rw [hfit] at HF
      clear hA1 hA2 hA3 hA4
      go_enter Tryz.func5, Tryz.ntmps5
      go_wp2_with (go_at_call 9; refine (HF.out).mono ?_; rintro e w2 ⟨rfl, rfl⟩)
      go_ret
      exact ⟨rfl, Below.refl _ _⟩
    | true =>
      rw [hfit] at HF
      clear hfit
      by_cases h3 : 2147483647 < n3
      · clear hA1 hA2 hA3 hA4
        go_enter Tryz.func5, Tryz.ntmps5
        go_wp2_with (go_at_call 9; refine (HF.out).mono ?_; rintro e w2 ⟨rfl, rfl⟩)
        go_ret
        exact ⟨rfl, Below.refl _ _⟩
      · by_cases h4 : 2147483647 < n4
        · clear hA1 hA2 hA3 hA4
          go_enter Tryz.func5, Tryz.ntmps5
          go_wp2_with (go_at_call 9; refine (HF.out).mono ?_; rintro e w2 ⟨rfl, rfl⟩)
          go_ret
          exact ⟨rfl, Below.refl _ _⟩
        · have HI := idAt_any hi (n := 1099511627776) (by decide) (by unfold big62; decide)
          obtain ⟨x, hx⟩ : ∃ x : Nat, i % 1099511627776 = (x : Int) := ⟨(i % 1099511627776).toNat, by omega⟩
          rw [hx] at HI
          replace HI := Lib.hid HI
          have hx2 : x < 1099511627776 := by omega
          have hw : IntKind.u64.wrap (x : Int) = (x : Int) := by simp only [IntKind.wrap_u64]; omega
          have HC := Lib.hid (idCut_any (w := w) (A := A1) hn1.2)
          have HPl := Lib.hid (anPlain_any (cap := cap1) (hA1.take (min n1 1000) (by omega)) (by omega))
          have hcut : l1.take (min n1 1000) = cutOf l1 := by unfold cutOf; rw [hA1.1]
          rw [hcut] at HPl
          have HSm := Lib.hid (fun (W : World) (hW : Below w.heap.size w W) => idSmall_any (cn := cap2) (cm := cap3) (cr := cap4) (hA2.below hW) hn2.1 (hA3.below hW) hn3.1 (hA4.below hW) hn4.1)
          have hps := partK_ok l2 l3 l4 l2.length
          have hpn := partK_len l2 l3 l4 l2.length
          have hc := nameOk_plain l1
          have hc0 : plainOf (cutOf l1) ≠ [] := plainOf_pos _
          clear hcut hA1 hA2 hA3 hA4
          generalize partK l2 l3 l4 l2.length = ps at *
          generalize plainOf (cutOf l1) = crate at *
          have hsay := names_say hc0 hc (cd := x) (by omega) _ (rev_ok hps) (by rw [List.length_reverse]; omega)
          have hl := symR_len hc (cd := x) (by omega) _ true (rev_ok hps)
          rw [List.length_reverse] at hl
          have HS := Lib.hid (fun (W : World) (g cap : Nat) (hW : Below w.heap.size w W) (hpa : PartsAt W g ps) => idSymbol_any (cap := cap) (hP.keepB hW) hc (cd := x) (by omega) hps (by omega) hpa)
          have HT := Lib.hid (fun (W : World) (g cap : Nat) (hW : Below w.heap.size w W) (hpa : PartsAt W g ps) => idText_any (cap := cap) (hP.keepB hW) hc hps (by omega) hpa)
          have ha : ∀ W, (Op.stringOp .add ⟨#[95, 82]⟩ (bs (symR crate x true ps.reverse))).run Tryz.prog W = .ok (.string (bs (95 :: 82 :: symR crate x true ps.reverse))) W := add_bs [95, 82] _ (by simp at hl ⊢; omega)
          generalize symR crate x true ps.reverse = S at *
          generalize textR crate ps.reverse = T at *
          have HId := Lib.hid (fun (W : World) (hW : Below w.heap.size w W) => idTold_yes (w := W) ((hP.keep hW (Nat.le_refl _)).up hW.size (Nat.le_refl _)) hsay)
          clear hps hc hc0 hsay hl hP hi hx hx2 hpn
          go_enter Tryz.func5, Tryz.ntmps5
          go_wp2_with (first
            | (go_at_call 9; refine (HF.out).mono ?_; rintro e w2 ⟨rfl, rfl⟩)
            | (go_at_call 11; refine (HC.out).mono ?_; rintro e w2 ⟨rfl, rfl⟩)
            | (go_at_call 10; refine (HPl.out).mono ?_; rintro e w3 ⟨rfl, hb3⟩)
            | (go_at_call 12; refine (HSm.out _ hb3).mono ?_; rintro e w4 ⟨v, rfl, ho, hb4⟩; obtain ⟨g, cp, rfl, hpa⟩ := ho.parts)
            | (go_at_call 21; refine (HI.out _).mono ?_; rintro e w5 ⟨rfl, rfl⟩)
            | (go_at_call 14; refine (HS.out _ _ _ (hb3.trans (hb4.mono hb3.size)) hpa).mono ?_; rintro e w6 ⟨rfl, hb6⟩)
            | (go_at_call 15; refine (HT.out _ _ _ ((hb3.trans (hb4.mono hb3.size)).trans (hb6.mono (Nat.le_trans hb3.size hb4.size))) (hpa.below hb6)).mono ?_; rintro e w7 ⟨rfl, hb7⟩)
            | (go_at_call 13; refine (HId.out _ (((hb3.trans (hb4.mono hb3.size)).trans (hb6.mono (Nat.le_trans hb3.size hb4.size))).trans (hb7.mono (Nat.le_trans (Nat.le_trans hb3.size hb4.size) hb6.size)))).mono ?_; rintro e w8 ⟨rfl, hb8⟩))
          go_ret
          exact ⟨rfl, (((hb3.trans (hb4.mono hb3.size)).trans (hb6.mono (Nat.le_trans hb3.size hb4.size))).trans (hb7.mono (Nat.le_trans (Nat.le_trans hb3.size hb4.size) hb6.size))).trans (hb8.mono (Nat.le_trans (Nat.le_trans (Nat.le_trans hb3.size hb4.size) hb6.size) hb7.size))⟩
end Go.Proofs.YtoefegbbnaonoaaGreatDoor
