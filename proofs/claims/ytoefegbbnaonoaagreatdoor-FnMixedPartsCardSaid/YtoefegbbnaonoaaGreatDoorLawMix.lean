/- FnMixedParts: the walk. -/
import Derived.Test.YtoefegbbnaonoaaGreatDoorLawDis
import Derived.Test.YtoefegbbnaonoaaGreatDoorSpecial
namespace Go.Proofs.YtoefegbbnaonoaaGreatDoor
open Go.RowKit Go.Lib Go.WideShapes Go.ChangeShapes
set_option linter.unusedVariables false
set_option maxRecDepth 100000
attribute [local go_sem] bs_size bs_toList

theorem up_of {l : List UInt8} {i : Nat} : isUp (spaceOf l i 65) = true := by
  have key : ∀ c : UInt8, isUp (65 + c % 26) = true := by
    intro c
    refine decide_eq_true ?_
    have h2 : (65 + c % 26 : UInt8).toNat = 65 + c.toNat % 26 := by
      rw [UInt8.toNat_add, UInt8.toNat_mod, show (65 : UInt8).toNat = 65 from rfl, show (26 : UInt8).toNat = 26 from rfl]; omega
    rw [h2]
    omega
  unfold spaceOf
  split
  · exact key 2
  · exact key _
theorem specK_ok (names : List (List UInt8)) (sp : List UInt8) (zs : List Int) (k : Nat) : ∀ p ∈ specK names sp zs k, PartOk p := by
  intro p hp
  obtain ⟨i, _, rfl⟩ := List.mem_map.1 hp
  refine ⟨?_, ?_, disAt_le _ _⟩
  · show (isLow (spaceOf sp i 65) || isUp (spaceOf sp i 65)) = true
    rw [up_of, Bool.or_true]
  · show NameOk (if names.getD i [] = [] then [] else plainOf (cutOf (names.getD i [])))
    split
    · exact ⟨rfl, by simp⟩
    · exact nameOk_plain _
theorem cellsL_one' (ps : List Part) : ∀ u ∈ cellsL ps, u.oneCell' = true := by
  intro u hu
  obtain ⟨p, _, hp⟩ := List.mem_flatMap.1 hu
  simp [cellsP] at hp
  rcases hp with rfl | rfl | rfl <;> rfl
theorem ok_app {a b : List Part} (ha : ∀ p ∈ a, PartOk p) (hb : ∀ p ∈ b, PartOk p) : ∀ p ∈ a ++ b, PartOk p := fun p hp => (List.mem_append.1 hp).elim (ha p) (hb p)
/-- A row put behind a row that the call owns. -/
theorem OwnsP.app {w : World} {base : Nat} {v : Value} {a b : List Part} (h : w.ownsRow base 37 3 v (a.length + b.length) (cellsL a ++ cellsL b)) (hv : v ≠ .slice none 0 0) : OwnsP w base v (a ++ b) := by
  refine ⟨?_, hv⟩
  rw [cellsL_add, List.length_append]
  exact h

set_option maxHeartbeats 4000000 in
theorem mixed_walk (w : World) (hP : Pow w w.heap.size) (A1 : Option Addr) (n1 cap1 : Nat) (l1 : List UInt8) (hA1 : Bytes w A1 n1 l1) (hn1 : n1 ≤ maxLen ∧ n1 ≤ cap1)
    (A2 : Option Addr) (n2 cap2 : Nat) (l2 : List (List UInt8)) (hA2 : NamesAt w A2 n2 l2) (hn2 : n2 ≤ maxLen ∧ n2 ≤ cap2) (A3 : Option Addr) (n3 cap3 : Nat) (l3 : List (List UInt8)) (hA3 : NamesAt w A3 n3 l3) (hn3 : n3 ≤ maxLen ∧ n3 ≤ cap3)
    (A4 : Option Addr) (n4 cap4 : Nat) (l4 : List (List UInt8)) (hA4 : NamesAt w A4 n4 l4) (hn4 : n4 ≤ maxLen ∧ n4 ≤ cap4) (A5 : Option Addr) (n5 cap5 : Nat) (l5 : List UInt8) (hA5 : Bytes w A5 n5 l5) (hn5 : n5 ≤ maxLen ∧ n5 ≤ cap5)
    (A6 : Option Addr) (n6 cap6 : Nat) (l6 : List Int) (hA6 : IntsAt w A6 n6 l6) (hn6 : n6 ≤ maxLen ∧ n6 ≤ cap6) :
    Calls Tryz.prog 8 #[.slice A1 n1 cap1, .slice A2 n2 cap2, .slice A3 n3 cap3, .slice A4 n4 cap4, .slice A5 n5 cap5, .slice A6 n6 cap6] w fun e w' => e = .returned (.bool true) ∧ Below w.heap.size w w' := by
  have HF1 := Lib.hid (zzFits1_any (cap := cap2) hA2 hn2.1)
  have HF2 := Lib.hid (zzFits1_any (cap := cap3) hA3 hn3.1)
  have HF3 := Lib.hid (zzFits1_any (cap := cap4) hA4 hn4.1)
  have b1 := hn1.1
  have b5 := hn5.1
  have b6 := hn6.1
  unfold maxLen at b1 b5 b6
  by_cases h1 : 2147483647 < n1
  · skip
    clear hA1 hA2 hA3 hA4 hA5 hA6
    go_enter Tryz.func8, Tryz.ntmps8
    go_wp2_with fail
    go_ret
    exact ⟨rfl, Below.refl _ _⟩
  · cases hfit : fitsN l2 with
    | false =>
      rw [hfit] at HF1
      clear hA1 hA2 hA3 hA4 hA5 hA6
      go_enter Tryz.func8, Tryz.ntmps8
      go_wp2_with (first | (go_at_call 9; refine (HF1.out).mono ?_; rintro e w2 ⟨rfl, rfl⟩; have q1 : True := trivial))
      go_ret
      exact ⟨rfl, Below.refl _ _⟩
    | true =>
      rw [hfit] at HF1
      clear hfit
      cases hfit : fitsN l3 with
      | false =>
        rw [hfit] at HF2
        clear hA1 hA2 hA3 hA4 hA5 hA6
        go_enter Tryz.func8, Tryz.ntmps8
        go_wp2_with (first | (go_at_call 9; have := q1; refine (HF2.out).mono ?_; rintro e w2 ⟨rfl, rfl⟩; have q2 : True := trivial) | (go_at_call 9; refine (HF1.out).mono ?_; rintro e w2 ⟨rfl, rfl⟩; have q1 : True := trivial))
        go_ret
        exact ⟨rfl, Below.refl _ _⟩
      | true =>
        rw [hfit] at HF2
        clear hfit
        cases hfit : fitsN l4 with
        | false =>
          rw [hfit] at HF3
          clear hA1 hA2 hA3 hA4 hA5 hA6
          go_enter Tryz.func8, Tryz.ntmps8
          go_wp2_with (first | (go_at_call 9; have := q2; refine (HF3.out).mono ?_; rintro e w2 ⟨rfl, rfl⟩; have q3 : True := trivial) | (go_at_call 9; have := q1; refine (HF2.out).mono ?_; rintro e w2 ⟨rfl, rfl⟩; have q2 : True := trivial) | (go_at_call 9; refine (HF1.out).mono ?_; rintro e w2 ⟨rfl, rfl⟩; have q1 : True := trivial))
          go_ret
          exact ⟨rfl, Below.refl _ _⟩
        | true =>
          rw [hfit] at HF3
          clear hfit
          by_cases h5 : 2147483647 < n5
          · skip
            clear hA1 hA2 hA3 hA4 hA5 hA6
            go_enter Tryz.func8, Tryz.ntmps8
            go_wp2_with (first | (go_at_call 9; have := q2; refine (HF3.out).mono ?_; rintro e w2 ⟨rfl, rfl⟩; have q3 : True := trivial) | (go_at_call 9; have := q1; refine (HF2.out).mono ?_; rintro e w2 ⟨rfl, rfl⟩; have q2 : True := trivial) | (go_at_call 9; refine (HF1.out).mono ?_; rintro e w2 ⟨rfl, rfl⟩; have q1 : True := trivial))
            go_ret
            exact ⟨rfl, Below.refl _ _⟩
          · by_cases h6 : 2147483647 < n6
            · skip
              clear hA1 hA2 hA3 hA4 hA5 hA6
              go_enter Tryz.func8, Tryz.ntmps8
              go_wp2_with (first | (go_at_call 9; have := q2; refine (HF3.out).mono ?_; rintro e w2 ⟨rfl, rfl⟩; have q3 : True := trivial) | (go_at_call 9; have := q1; refine (HF2.out).mono ?_; rintro e w2 ⟨rfl, rfl⟩; have q2 : True := trivial) | (go_at_call 9; refine (HF1.out).mono ?_; rintro e w2 ⟨rfl, rfl⟩; have q1 : True := trivial))
              go_ret
              exact ⟨rfl, Below.refl _ _⟩
            · obtain ⟨i0, hi, hz0, hz1, hz2⟩ := info_parts infoPart
              have HC := Lib.hid (idCut_any (w := w) (A := A1) hn1.2)
              have HPl := Lib.hid (anPlain_any (cap := cap1) (hA1.take (min n1 1000) (by omega)) (by omega))
              have hcut : l1.take (min n1 1000) = cutOf l1 := by unfold cutOf; rw [hA1.1]
              rw [hcut] at HPl
              have HS1 := Lib.hid (fun (W : World) (hW : Below w.heap.size w W) => idSmall_any (cn := cap2) (cm := cap5) (cr := cap6) (hA2.below hW) hn2.1 (hA5.below hW) hn5.1 (hA6.below hW) hn6.1)
              have HS2 := Lib.hid (fun (W : World) (hW : Below w.heap.size w W) => idSpecial_any (cn := cap3) (cm := cap5) (cr := cap6) (hA3.below hW) hn3.1 (hA5.below hW) hn5.1 (hA6.below hW) hn6.1)
              have HS3 := Lib.hid (fun (W : World) (hW : Below w.heap.size w W) => idSmall_any (cn := cap4) (cm := cap5) (cr := cap6) (hA4.below hW) hn4.1 (hA5.below hW) hn5.1 (hA6.below hW) hn6.1)
              have hps := ok_app (ok_app (partK_ok l2 l5 l6 l2.length) (specK_ok l3 l5 l6 l3.length)) (partK_ok l4 l5 l6 l4.length)
              have k1 := partK_len l2 l5 l6 l2.length
              have k2 := specK_len l3 l5 l6 l3.length
              have k3 := partK_len l4 l5 l6 l4.length
              have hc := nameOk_plain l1
              have hc0 : plainOf (cutOf l1) ≠ [] := plainOf_pos _
              clear hcut hA1 hA2 hA3 hA4 hA5 hA6
              generalize partK l2 l5 l6 l2.length = p1 at *
              generalize specK l3 l5 l6 l3.length = p2 at *
              generalize partK l4 l5 l6 l4.length = p3 at *
              generalize plainOf (cutOf l1) = crate at *
              replace k1 : p1.length ≤ 100 := by omega
              replace k2 : p2.length ≤ 100 := by omega
              replace k3 : p3.length ≤ 100 := by omega
              obtain ⟨ps, hpe⟩ : ∃ ps, (p1 ++ p2) ++ p3 = ps := ⟨_, rfl⟩
              have hpl : ps.length ≤ 300 := by rw [← hpe]; simp only [List.length_append]; omega
              rw [hpe] at hps
              replace hpe := Lib.hid hpe
              have hsay := names_say hc0 hc (cd := 0) (by decide) _ (rev_ok hps) (by rw [List.length_reverse]; omega)
              have hl := symR_len hc (cd := 0) (by decide) _ true (rev_ok hps)
              rw [List.length_reverse] at hl
              have HS := Lib.hid (fun (W : World) (g cap : Nat) (hW : Below w.heap.size w W) (hpa : PartsAt W g ps) => idSymbol_any (cap := cap) (hP.keepB hW) hc (cd := 0) (by decide) hps (by omega) hpa)
              have HT := Lib.hid (fun (W : World) (g cap : Nat) (hW : Below w.heap.size w W) (hpa : PartsAt W g ps) => idText_any (cap := cap) (hP.keepB hW) hc hps (by omega) hpa)
              have ha : ∀ W, (Op.stringOp .add ⟨#[95, 82]⟩ (bs (symR crate 0 true ps.reverse))).run Tryz.prog W = .ok (.string (bs (95 :: 82 :: symR crate 0 true ps.reverse))) W := add_bs [95, 82] _ (by simp at hl ⊢; omega)
              generalize symR crate 0 true ps.reverse = S at *
              generalize textR crate ps.reverse = T at *
              have HId := Lib.hid (fun (W : World) (hW : Below w.heap.size w W) => idTold_yes (w := W) ((hP.keep hW (Nat.le_refl _)).up hW.size (Nat.le_refl _)) hsay)
              clear hps hc hc0 hsay hl hP hpl hn1 hn2 hn3 hn4 hn5 hn6
              go_enter Tryz.func8, Tryz.ntmps8
              go_wp2_with (first
                | (at_builtin; refine wpList_append_own _ rfl _ _ 27 rfl w3.heap.size 37 i0 (.agg #[.int .u8 0, .string ByteArray.empty, .int .u64 0]) 3 32 Tryz.underlying27 hi hz0 hz1 hz2 rfl (by decide) _ _ _ rfl ho1.1 ⟨g2, 0, none⟩ p2.length cp2 (cellsL p2) rfl (cellsL_length p2) (ho2.1.cells rfl) (cellsL_one' p2) ?c3 ?c4 ?c5 ?_)
                | (go_at_call 23; refine (HS2.out _ hb4).mono ?_; rintro e w5 ⟨v2, rfl, ho2, hb5⟩; obtain ⟨g2, cp2, rfl, -⟩ := ho2.parts; replace ho1 := ho1.below hb5; replace hb5 := hb4.trans (hb5.mono hb4.size))
                | (go_at_call 12; refine (HS1.out _ hb3).mono ?_; rintro e w4 ⟨v1, rfl, ho1, hb4⟩; obtain ⟨g1, cp1, rfl, -⟩ := ho1.parts; replace hb4 := hb3.trans (hb4.mono hb3.size))
                | (go_at_call 10; refine (HPl.out).mono ?_; rintro e w3 ⟨rfl, hb3⟩)
                | (go_at_call 11; refine (HC.out).mono ?_; rintro e w2 ⟨rfl, rfl⟩)
                | (go_at_call 9; have := q2; refine (HF3.out).mono ?_; rintro e w2 ⟨rfl, rfl⟩; have q3 : True := trivial)
                | (go_at_call 9; have := q1; refine (HF2.out).mono ?_; rintro e w2 ⟨rfl, rfl⟩; have q2 : True := trivial)
                | (go_at_call 9; refine (HF1.out).mono ?_; rintro e w2 ⟨rfl, rfl⟩; have q1 : True := trivial))
              case c3 => unfold maxLen; omega
              case c4 => omega
              case c5 => exact Nat.le_of_lt (Nat.lt_of_le_of_lt (ho1.1.lt g1 rfl).1 (ho1.1.lt g1 rfl).2)
              intro v' w6 hown' hgrow hnil
              have hb6 := hb5.grown hgrow hb5.size (fun j hj => Nat.le_trans hb3.size (ho1.1.lt j hj).1)
              have ho6 : OwnsP w6 w3.heap.size v' (p1 ++ p2) := OwnsP.app hown' (by intro h; simp [h] at hnil)
              clear hown' hgrow hnil ho1 ho2 hb4 hb5
              obtain ⟨g6, cp6, rfl, -⟩ := ho6.parts
              have k12 : (p1 ++ p2).length ≤ 200 := by simp only [List.length_append]; omega
              obtain ⟨p12, hp12⟩ : ∃ q, p1 ++ p2 = q := ⟨_, rfl⟩
              rw [hp12] at ho6 k12 hpe
              rw [hp12]
              clear hp12
              go_wp2_with (first
                | (at_builtin; refine wpList_append_own _ rfl _ _ 27 rfl w3.heap.size 37 i0 (.agg #[.int .u8 0, .string ByteArray.empty, .int .u64 0]) 3 32 Tryz.underlying27 hi hz0 hz1 hz2 rfl (by decide) _ _ _ rfl ho6.1 ⟨g7, 0, none⟩ p3.length cp7 (cellsL p3) rfl (cellsL_length p3) (ho7.1.cells rfl) (cellsL_one' p3) ?c3 ?c4 ?c5 ?_)
                | (go_at_call 12; refine (HS3.out _ hb6).mono ?_; rintro e w7 ⟨v7, rfl, ho7, hb7⟩; obtain ⟨g7, cp7, rfl, -⟩ := ho7.parts; replace ho6 := ho6.below hb7; replace hb7 := hb6.trans (hb7.mono hb6.size)))
              case c3 => unfold maxLen; omega
              case c4 => omega
              case c5 => exact Nat.le_of_lt (Nat.lt_of_le_of_lt (ho6.1.lt g6 rfl).1 (ho6.1.lt g6 rfl).2)
              intro v8 w8 hown' hgrow hnil
              have hb8 := hb7.grown hgrow hb7.size (fun j hj => Nat.le_trans hb3.size (ho6.1.lt j hj).1)
              have ho8 : OwnsP w8 w3.heap.size v8 (p12 ++ p3) := OwnsP.app hown' (by intro h; simp [h] at hnil)
              clear hown' hgrow hnil ho6 ho7 hb6 hb7
              rw [hpe.out] at ho8
              obtain ⟨g8, cp8, rfl, hpa⟩ := ho8.parts
              go_wp2_with (first
                | (go_at_call 13; refine (HId.out _ hbb).mono ?_; rintro e wz ⟨rfl, hbz⟩; replace hbz := hbb.trans (hbz.mono hbb.size))
                | (go_at_call 15; refine (HT.out _ _ _ hb9 hpa).mono ?_; rintro e w10 ⟨rfl, hbb⟩; replace hbb := hb9.trans (hbb.mono hb9.size))
                | (go_at_call 14; refine (HS.out _ _ _ hb8 hpa).mono ?_; rintro e w9 ⟨rfl, hb9⟩; replace hpa := hpa.below hb9; replace hb9 := hb8.trans (hb9.mono hb8.size)))
              go_ret
              exact ⟨rfl, hbz⟩
end Go.Proofs.YtoefegbbnaonoaaGreatDoor
