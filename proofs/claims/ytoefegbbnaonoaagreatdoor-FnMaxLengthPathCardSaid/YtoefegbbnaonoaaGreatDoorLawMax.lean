/- FnMaxLengthPath: the walk. -/
import Derived.Test.YtoefegbbnaonoaaGreatDoorLawDis
import Derived.Test.YtoefegbbnaonoaaGreatDoorRtsMax
namespace Go.Proofs.YtoefegbbnaonoaaGreatDoor
open Go.RowKit Go.Lib
set_option linter.unusedVariables false
set_option maxRecDepth 100000
attribute [local go_sem] bs_size bs_toList

theorem partK_low (names : List (List UInt8)) (sp : List UInt8) (zs : List Int) (k : Nat) : ∀ p ∈ partK names sp zs k, isLow p.space = true := by
  intro p hp
  obtain ⟨i, _, rfl⟩ := List.mem_map.1 hp
  exact low_of
theorem names_lim {M : Nat} {crate : List UInt8} {cd : Nat} (hM : 0 < M) (h0 : crate ≠ []) (hc : NameOk crate) (hd : cd ≤ 4611686018427387904) (ps : List Part) (hp : ∀ p ∈ ps, PartOk p) (hlow : ∀ p ∈ ps, isLow p.space = true) (hn : ps.length ≤ 1000) :
    NameLims M (95 :: 82 :: symR crate cd true ps) (textR crate ps) := by
  have hl := symR_size hc hd ps true hp
  have hst : Lim M [] ({ orig := bs (symR crate cd true ps), str := symR crate cd true ps, max := (M : Int) } : St) := ⟨rfl, .inl ⟨rfl, rfl⟩⟩
  refine ⟨formOf (symR_plain hc ps true hp) (by omega), ps.length + 1, _, rsym_read h0 hc hd ps hp { orig := bs (symR crate cd true ps), str := symR crate cd true ps, max := (M : Int) } (fun p hp2 hu => by rw [low_notUp (hlow p hp2)] at hu; cases hu) rfl, rfl, ?_⟩
  exact lim_take (lim_stR hM hst ps hlow)

theorem take_min (T : List UInt8) (M : Nat) : T.take (min T.length M) = T.take M := by
  rcases Nat.le_total T.length M with h | h
  · rw [Nat.min_eq_left h, List.take_length, List.take_of_length_le h]
  · rw [Nat.min_eq_right h]

set_option maxHeartbeats 2000000 in
theorem limited_any {w : World} {F T : List UInt8} {i : Int} (hi : (Lit.int .i64 i).wf = true) (hP : Pow w w.heap.size) (hT : T.length ≤ 1000000000000) (h : ∀ M, 0 < M → NameLims M F T) :
    Calls Tryz.prog 22 #[.string (bs F), .string (bs T), .int .i64 i] w fun e w' => e = .returned (.bool true) ∧ Below w.heap.size w w' := by
  have HI := idAt_any hi (n := 30) (by decide) (by unfold big62; decide)
  obtain ⟨x, hx⟩ : ∃ x : Nat, i % 30 = (x : Int) := ⟨(i % 30).toNat, by omega⟩
  rw [hx] at HI
  replace HI := Lib.hid HI
  have hx2 : x < 30 := by omega
  obtain ⟨p, hp⟩ : ∃ p, 1 + x = p := ⟨_, rfl⟩
  have hpp : (1 : Int) + (x : Int) = (p : Int) := by omega
  have h1 : 0 < p := by omega
  have h2 : p ≤ 30 := by omega
  have hpw := pow_lim p h2
  have HT := Lib.hid (told_max h1 h2 hP (h _ hpw.2))
  have hpz : ((2 : Int) ^ p) = ((2 ^ p : Nat) : Int) := by simp
  obtain ⟨M, hM⟩ : ∃ M, 2 ^ p = M := ⟨_, rfl⟩
  rw [hM] at HT hpw hpz
  have hw : IntKind.i64.wrap (M : Int) = (M : Int) := by simp only [IntKind.wrap_i64]; omega
  have hmin : min (T.length : Int) (M : Int) = ((min T.length M : Nat) : Int) := by omega
  have hex : (bs T).extract 0 (min T.length M) = bs (T.take M) := by rw [bs_extract, List.drop_zero, Nat.sub_zero, take_min]
  have heq : (T.take M == T.take M) = true := by simp
  have hle : min T.length M ≤ T.length := Nat.min_le_left _ _
  clear hi hP h hx hM
  go_enter Tryz.func22, Tryz.ntmps22
  go_wp2_with (first
    | (go_at_call 21; refine (HI.out _).mono ?_; rintro e w5 ⟨rfl, rfl⟩)
    | (go_at_call 20; refine (HT.out).mono ?_; rintro e w2 ⟨rfl, hb2⟩))
  go_ret
  exact ⟨rfl, hb2⟩

set_option maxHeartbeats 2000000 in
theorem maxPath_walk (w : World) (hP : Pow w w.heap.size) (A1 : Option Addr) (n1 cap1 : Nat) (l1 : List UInt8) (hA1 : Bytes w A1 n1 l1) (hn1 : n1 ≤ maxLen ∧ n1 ≤ cap1)
    (A2 : Option Addr) (n2 cap2 : Nat) (l2 : List (List UInt8)) (hA2 : NamesAt w A2 n2 l2) (hn2 : n2 ≤ maxLen ∧ n2 ≤ cap2) (A3 : Option Addr) (n3 cap3 : Nat) (l3 : List UInt8) (hA3 : Bytes w A3 n3 l3) (hn3 : n3 ≤ maxLen ∧ n3 ≤ cap3) (i : Int) (hi : (Lit.int .i64 i).wf = true) :
    Calls Tryz.prog 7 #[.slice A1 n1 cap1, .slice A2 n2 cap2, .slice A3 n3 cap3, .int .i64 i] w fun e w' => e = .returned (.bool true) ∧ Below w.heap.size w w' := by
  have HF := Lib.hid (zzFits1_any (cap := cap2) hA2 hn2.1)
  have b3 := hn3.1
  have b1 := hn1.1
  unfold maxLen at b1 b3
  by_cases h1 : 2147483647 < n1
  · clear hA1 hA2 hA3
    go_enter Tryz.func7, Tryz.ntmps7
    go_wp2_with fail
    go_ret
    exact ⟨rfl, Below.refl _ _⟩
  · cases hfit : fitsN l2 with
    | false =>
      rw [hfit] at HF
      clear hA1 hA2 hA3
      go_enter Tryz.func7, Tryz.ntmps7
      go_wp2_with (go_at_call 9; refine (HF.out).mono ?_; rintro e w2 ⟨rfl, rfl⟩)
      go_ret
      exact ⟨rfl, Below.refl _ _⟩
    | true =>
      rw [hfit] at HF
      clear hfit
      by_cases h3 : 2147483647 < n3
      · clear hA1 hA2 hA3
        go_enter Tryz.func7, Tryz.ntmps7
        go_wp2_with (go_at_call 9; refine (HF.out).mono ?_; rintro e w2 ⟨rfl, rfl⟩)
        go_ret
        exact ⟨rfl, Below.refl _ _⟩
      · have HC := Lib.hid (fun (W : World) (A : Option Addr) (n c : Nat) (h : n ≤ c) => idCut_any (w := W) (A := A) h)
        have HPl := Lib.hid (anPlain_any (cap := cap1) (hA1.take (min n1 1000) (by omega)) (by omega))
        have hcut : l1.take (min n1 1000) = cutOf l1 := by unfold cutOf; rw [hA1.1]
        rw [hcut] at HPl
        have HSm := Lib.hid (fun (W : World) (hW : Below w.heap.size w W) => idSmall_any (C := none) (r := 0) (zs := []) (cn := cap2) (cm := cap3) (cr := 0) (hA2.below hW) hn2.1 (hA3.below hW) hn3.1 ⟨rfl, by simp, .inl rfl⟩ (by simp [maxLen]))
        have hps := partK_ok l2 l3 [] l2.length
        have hpn := partK_len l2 l3 [] l2.length
        have hlow := partK_low l2 l3 [] l2.length
        have hc := nameOk_plain l1
        have hc0 : plainOf (cutOf l1) ≠ [] := plainOf_pos _
        clear hcut hA1 hA2 hA3
        generalize partK l2 l3 [] l2.length = ps at *
        generalize plainOf (cutOf l1) = crate at *
        have hsay := fun (M : Nat) (hM : 0 < M) => names_lim hM hc0 hc (cd := 0) (by decide) _ (rev_ok hps) (fun p hp => hlow p (List.mem_reverse.1 hp)) (by rw [List.length_reverse]; omega)
        have htl := textR_len hc ps.reverse (rev_ok hps)
        rw [List.length_reverse] at htl
        have hl := symR_len hc (cd := 0) (by decide) _ true (rev_ok hps)
        rw [List.length_reverse] at hl
        have HS := Lib.hid (fun (W : World) (g cap : Nat) (hW : Below w.heap.size w W) (hpa : PartsAt W g ps) => idSymbol_any (cap := cap) (hP.keepB hW) hc (cd := 0) (by decide) hps (by omega) hpa)
        have HT := Lib.hid (fun (W : World) (g cap : Nat) (hW : Below w.heap.size w W) (hpa : PartsAt W g ps) => idText_any (cap := cap) (hP.keepB hW) hc hps (by omega) hpa)
        have ha : ∀ W, (Op.stringOp .add ⟨#[95, 82]⟩ (bs (symR crate 0 true ps.reverse))).run Tryz.prog W = .ok (.string (bs (95 :: 82 :: symR crate 0 true ps.reverse))) W := add_bs [95, 82] _ (by simp at hl ⊢; omega)
        generalize symR crate 0 true ps.reverse = S at *
        generalize textR crate ps.reverse = T at *
        have HId := Lib.hid (fun (W : World) (hW : Below w.heap.size w W) => limited_any (w := W) hi ((hP.keep hW (Nat.le_refl _)).up hW.size (Nat.le_refl _)) (by omega) hsay)
        have c1 := hn1.2
        clear hps hc hc0 hsay hl hP hi hpn hlow htl
        go_enter Tryz.func7, Tryz.ntmps7
        go_wp2_with (first
          | (go_at_call 22; refine (HId.out _ hb8).mono ?_; rintro e wz ⟨rfl, hbz⟩; replace hbz := hb8.trans (hbz.mono hb8.size))
          | (go_at_call 15; refine (HT.out _ _ _ hb5 hpa).mono ?_; rintro e w8 ⟨rfl, hb8⟩; replace hb8 := hb5.trans (hb8.mono hb5.size))
          | (go_at_call 14; refine (HS.out _ _ _ hb4 hpa).mono ?_; rintro e w5 ⟨rfl, hb5⟩; replace hpa := hpa.below hb5; replace hb5 := hb4.trans (hb5.mono hb4.size))
          | (go_at_call 12; refine (HSm.out _ hb3).mono ?_; rintro e w4 ⟨v, rfl, ho, hb4⟩; obtain ⟨g, cp, rfl, hpa⟩ := ho.parts; replace hb4 := hb3.trans (hb4.mono hb3.size))
          | (go_at_call 10; refine (HPl.out).mono ?_; rintro e w3 ⟨rfl, hb3⟩)
          | (go_at_call 11; refine (HC.out _ _ _ _ (by assumption)).mono ?_; rintro e w2 ⟨rfl, rfl⟩)
          | (go_at_call 9; refine (HF.out).mono ?_; rintro e w2 ⟨rfl, rfl⟩))
        go_ret
        exact ⟨rfl, hbz⟩
end Go.Proofs.YtoefegbbnaonoaaGreatDoor
