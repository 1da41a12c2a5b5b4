/- FnInstantiatingCrate: the walk. -/
import Derived.Test.YtoefegbbnaonoaaGreatDoorLawDis
namespace Go.Proofs.YtoefegbbnaonoaaGreatDoor
open Go.RowKit Go.Lib
set_option linter.unusedVariables false
set_option maxRecDepth 100000
attribute [local go_sem] bs_size bs_toList

/-- A written path before one more crate. -/
theorem rsym_read2 {crate other : List UInt8} {cd od : Nat} (h0 : crate ≠ []) (hc : NameOk crate) (hd : cd ≤ 4611686018427387904) (ps : List Part) (hp : ∀ p ∈ ps, PartOk p) (hnm : ∀ p ∈ ps, p.name ≠ []) (st : St) (hk : st.skip = false ∧ st.max = 0)
    (o0 : other ≠ []) (oc : NameOk other) (ho : od ≤ 4611686018427387904) (hs : st.str = symR crate cd true ps ++ symR other od true []) :
    rsym (ps.length + 1) st = some (some { st with str := [], out := st.out ++ textR crate ps, skip := true }) := by
  have hr := rpath_read h0 hc hd ps true (ps.length + 1) st (symR other od true []) hp (by omega) hs (fun p hh h c u e => absurd h.1 (hnm p (by cases ps with | nil => cases hh | cons a b => cases hh; exact List.mem_cons_self ..))) (fun _ _ _ => hk)
  have hr2 := rpath_read o0 oc ho [] true (ps.length + 1) { ((stR crate st ps).on (symR other od true [])) with skip := true } [] (fun _ h => by cases h) (by simp) (by simp [St.on]) (fun _ h => by cases h) (fun _ h => by cases h)
  obtain ⟨c, t, e, hdg⟩ := symR_head crate cd true ps
  obtain ⟨c2, t2, e2, -⟩ := symR_head other od true []
  rw [stR_keeps crate hk.1 hk.2] at hr hr2
  unfold rsym
  rw [hs, e]
  simp only [List.cons_append]
  rw [if_neg (by rw [hdg]; simp), hr]
  simp only
  rw [if_neg (by show ¬ symR other od true [] = []; rw [e2]; simp), hr2]
  rfl
theorem names_say2 {crate other : List UInt8} {cd od : Nat} (h0 : crate ≠ []) (hc : NameOk crate) (hd : cd ≤ 4611686018427387904) (ps : List Part) (hp : ∀ p ∈ ps, PartOk p) (hnm : ∀ p ∈ ps, p.name ≠ []) (hn : ps.length ≤ 1000)
    (o0 : other ≠ []) (oc : NameOk other) (ho : od ≤ 4611686018427387904) :
    NameSays (95 :: 82 :: (symR crate cd true ps ++ symR other od true [])) (textR crate ps) := by
  have hl := symR_size hc hd ps true hp
  have hl2 := symR_size oc ho [] true (fun _ h => by cases h)
  simp only [List.length_nil] at hl2
  refine ⟨formOf (fun c h => (List.mem_append.1 h).elim (symR_plain hc ps true hp c) (symR_plain oc [] true (fun _ h => by cases h) c)) (by rw [List.length_append]; omega), ps.length + 1, _, rsym_read2 h0 hc hd ps hp hnm { orig := bs (symR crate cd true ps ++ symR other od true []), str := symR crate cd true ps ++ symR other od true [] } ⟨rfl, rfl⟩ o0 oc ho rfl, rfl, ?_⟩
  show [] ++ textR crate ps = textR crate ps
  rfl

theorem idSymbol_nil {w : World} {B : Nat} {crate : List UInt8} {cd : Nat} (hp : Pow w B) (hc : NameOk crate) (hd : cd ≤ 4611686018427387904) :
    Calls Tryz.prog 14 #[.string (bs crate), .int .u64 (cd : Int), .slice none 0 0] w fun e w' => e = .returned (.string (bs (symR crate cd true []))) ∧ Below w.heap.size w w' := by
  have HI := Lib.hid (idIdent_any hp hc cd hd)
  have h1 := disOf_length cd (by omega)
  have h2 := writtenOf_len hc.2
  have ha : ∀ W, (Op.stringOp .add ⟨#[67]⟩ (bs (disOf cd ++ writtenOf crate))).run Tryz.prog W = .ok (.string (bs (67 :: (disOf cd ++ writtenOf crate)))) W := add_bs [67] _ (by simp; omega)
  have hst : 67 :: (disOf cd ++ writtenOf crate) = symR crate cd true [] := by simp [symR]
  rw [hst] at ha
  clear h1 h2 hp hc hst
  go_enter Tryz.func14, Tryz.ntmps14
  go_wp2_with (go_at_call 26; refine (HI.out).mono ?_; rintro e w2 ⟨rfl, hb2⟩)
  go_loopg [7, 17] 0 (fun m v u wr => u = .int .i64 0 ∧ v = .string (bs (symR crate cd true [])) ∧ Below w.heap.size w wr)
  case atStart => exact ⟨rfl, rfl, hb2⟩
  case round =>
    obtain ⟨rfl, rfl, hb⟩ := hrel
    clear hb2
    go_wp2_with fail
    go_ret
    exact ⟨rfl, hb⟩

theorem plainK (names : List (List UInt8)) (sp : List UInt8) (zs : List Int) (k : Nat) : ∀ p ∈ partK names sp zs k, p.name ≠ [] := by
  intro p hp
  obtain ⟨i, _, rfl⟩ := List.mem_map.1 hp
  exact plainOf_pos _

set_option maxHeartbeats 2000000 in
theorem inst_walk (w : World) (hP : Pow w w.heap.size) (A1 : Option Addr) (n1 cap1 : Nat) (l1 : List UInt8) (hA1 : Bytes w A1 n1 l1) (hn1 : n1 ≤ maxLen ∧ n1 ≤ cap1)
    (A2 : Option Addr) (n2 cap2 : Nat) (l2 : List (List UInt8)) (hA2 : NamesAt w A2 n2 l2) (hn2 : n2 ≤ maxLen ∧ n2 ≤ cap2) (A3 : Option Addr) (n3 cap3 : Nat) (l3 : List UInt8) (hA3 : Bytes w A3 n3 l3) (hn3 : n3 ≤ maxLen ∧ n3 ≤ cap3)
    (A4 : Option Addr) (n4 cap4 : Nat) (l4 : List UInt8) (hA4 : Bytes w A4 n4 l4) (hn4 : n4 ≤ maxLen ∧ n4 ≤ cap4) (i : Int) (hi : (Lit.int .i64 i).wf = true) :
    Calls Tryz.prog 6 #[.slice A1 n1 cap1, .slice A2 n2 cap2, .slice A3 n3 cap3, .slice A4 n4 cap4, .int .i64 i] w fun e w' => e = .returned (.bool true) ∧ Below w.heap.size w w' := by
  have HF := Lib.hid (zzFits1_any (cap := cap2) hA2 hn2.1)
  have b3 := hn3.1
  have b1 := hn1.1
  have b4 := hn4.1
  unfold maxLen at b1 b3 b4
  by_cases h1 : 2147483647 < n1
  · clear hA1 hA2 hA3 hA4
    go_enter Tryz.func6, Tryz.ntmps6
    go_wp2_with fail
    go_ret
    exact ⟨rfl, Below.refl _ _⟩
  · cases hfit : fitsN l2 with
    | false =>
      rw [hfit] at HF
      clear hA1 hA2 hA3 hA4
      go_enter Tryz.func6, Tryz.ntmps6
      go_wp2_with (go_at_call 9; refine (HF.out).mono ?_; rintro e w2 ⟨rfl, rfl⟩)
      go_ret
      exact ⟨rfl, Below.refl _ _⟩
    | true =>
      rw [hfit] at HF
      clear hfit
      by_cases h3 : 2147483647 < n3
      · clear hA1 hA2 hA3 hA4
        go_enter Tryz.func6, Tryz.ntmps6
        go_wp2_with (go_at_call 9; refine (HF.out).mono ?_; rintro e w2 ⟨rfl, rfl⟩)
        go_ret
        exact ⟨rfl, Below.refl _ _⟩
      · by_cases h4 : 2147483647 < n4
        · clear hA1 hA2 hA3 hA4
          go_enter Tryz.func6, Tryz.ntmps6
          go_wp2_with (go_at_call 9; refine (HF.out).mono ?_; rintro e w2 ⟨rfl, rfl⟩)
          go_ret
          exact ⟨rfl, Below.refl _ _⟩
        · have HI := idAt_any hi (n := 1099511627776) (by decide) (by unfold big62; decide)
          obtain ⟨x, hx⟩ : ∃ x : Nat, i % 1099511627776 = (x : Int) := ⟨(i % 1099511627776).toNat, by omega⟩
          rw [hx] at HI
          replace HI := Lib.hid HI
          have hx2 : x < 1099511627776 := by omega
          have hw : IntKind.u64.wrap (x : Int) = (x : Int) := by simp only [IntKind.wrap_u64]; omega
          have HC := Lib.hid (fun (W : World) (A : Option Addr) (n c : Nat) (h : n ≤ c) => idCut_any (w := W) (A := A) h)
          have HPl := Lib.hid (anPlain_any (cap := cap1) (hA1.take (min n1 1000) (by omega)) (by omega))
          have hcut : l1.take (min n1 1000) = cutOf l1 := by unfold cutOf; rw [hA1.1]
          rw [hcut] at HPl
          have HPo := Lib.hid (fun (W : World) (hW : Below w.heap.size w W) => anPlain_any (cap := cap4) ((hA4.below hW).take (min n4 1000) (by omega)) (by omega))
          have hcut2 : l4.take (min n4 1000) = cutOf l4 := by unfold cutOf; rw [hA4.1]
          rw [hcut2] at HPo
          have HSm := Lib.hid (fun (W : World) (hW : Below w.heap.size w W) => idSmall_any (C := none) (r := 0) (zs := []) (cn := cap2) (cm := cap3) (cr := 0) (hA2.below hW) hn2.1 (hA3.below hW) hn3.1 ⟨rfl, by simp, .inl rfl⟩ (by simp [maxLen]))
          have hps := partK_ok l2 l3 [] l2.length
          have hpn := partK_len l2 l3 [] l2.length
          have hnm := plainK l2 l3 [] l2.length
          have hc := nameOk_plain l1
          have hc0 : plainOf (cutOf l1) ≠ [] := plainOf_pos _
          have ho := nameOk_plain l4
          have ho0 : plainOf (cutOf l4) ≠ [] := plainOf_pos _
          clear hcut hcut2 hA1 hA2 hA3 hA4
          generalize partK l2 l3 [] l2.length = ps at *
          generalize plainOf (cutOf l1) = crate at *
          generalize plainOf (cutOf l4) = other at *
          have hsay := names_say2 hc0 hc (cd := 0) (by decide) _ (rev_ok hps) (fun p hp => hnm p (List.mem_reverse.1 hp)) (by rw [List.length_reverse]; omega) ho0 ho (od := x) (by omega)
          have hl := symR_len hc (cd := 0) (by decide) _ true (rev_ok hps)
          rw [List.length_reverse] at hl
          have hl2 := symR_len ho (cd := x) (by omega) [] true (fun _ h => by cases h)
          simp only [List.length_nil] at hl2
          have HS := Lib.hid (fun (W : World) (g cap : Nat) (hW : Below w.heap.size w W) (hpa : PartsAt W g ps) => idSymbol_any (cap := cap) (hP.keepB hW) hc (cd := 0) (by decide) hps (by omega) hpa)
          have HSo := Lib.hid (fun (W : World) (hW : Below w.heap.size w W) => idSymbol_nil (hP.keepB hW) ho (cd := x) (by omega))
          have HT := Lib.hid (fun (W : World) (g cap : Nat) (hW : Below w.heap.size w W) (hpa : PartsAt W g ps) => idText_any (cap := cap) (hP.keepB hW) hc hps (by omega) hpa)
          have ha : ∀ W, (Op.stringOp .add ⟨#[95, 82]⟩ (bs (symR crate 0 true ps.reverse))).run Tryz.prog W = .ok (.string (bs (95 :: 82 :: symR crate 0 true ps.reverse))) W := add_bs [95, 82] _ (by simp at hl ⊢; omega)
          have ha2 : ∀ W, (Op.stringOp .add (bs (95 :: 82 :: symR crate 0 true ps.reverse)) (bs (symR other x true []))).run Tryz.prog W = .ok (.string (bs (95 :: 82 :: (symR crate 0 true ps.reverse ++ symR other x true [])))) W := add_bs (95 :: 82 :: symR crate 0 true ps.reverse) _ (by simp only [List.length_cons]; omega)
          generalize symR crate 0 true ps.reverse = S at *
          generalize symR other x true [] = S2 at *
          generalize S ++ S2 = S3 at *
          generalize textR crate ps.reverse = T at *
          have HId := Lib.hid (fun (W : World) (hW : Below w.heap.size w W) => idTold_yes (w := W) ((hP.keep hW (Nat.le_refl _)).up hW.size (Nat.le_refl _)) hsay)
          have c1 := hn1.2
          have c4 := hn4.2
          clear hps hc hc0 hsay hl hP hi hx hx2 hpn ho ho0 hl2 hnm
          go_enter Tryz.func6, Tryz.ntmps6
          go_wp2_with (first
            | (go_at_call 13; refine (HId.out _ hb8).mono ?_; rintro e wz ⟨rfl, hbz⟩; replace hbz := hb8.trans (hbz.mono hb8.size))
            | (go_at_call 15; refine (HT.out _ _ _ hb7 hpa).mono ?_; rintro e w8 ⟨rfl, hb8⟩; replace hb8 := hb7.trans (hb8.mono hb7.size))
            | (go_at_call 14; refine (HS.out _ _ _ hb6 hpa).mono ?_; rintro e w7 ⟨rfl, hb7⟩; replace hpa := hpa.below hb7; replace hb7 := hb6.trans (hb7.mono hb6.size))
            | (go_at_call 14; refine (HSo.out _ hb5).mono ?_; rintro e w6 ⟨rfl, hb6⟩; replace hpa := hpa.below hb6; replace hb6 := hb5.trans (hb6.mono hb5.size))
            | (go_at_call 21; refine (HI.out _).mono ?_; rintro e w9 ⟨rfl, rfl⟩)
            | (go_at_call 10; refine (HPo.out _ hb4).mono ?_; rintro e w5 ⟨rfl, hb5⟩; replace hpa := hpa.below hb5; replace hb5 := hb4.trans (hb5.mono hb4.size))
            | (go_at_call 12; refine (HSm.out _ hb3).mono ?_; rintro e w4 ⟨v, rfl, ho, hb4⟩; obtain ⟨g, cp, rfl, hpa⟩ := ho.parts; replace hb4 := hb3.trans (hb4.mono hb3.size))
            | (go_at_call 10; refine (HPl.out).mono ?_; rintro e w3 ⟨rfl, hb3⟩)
            | (go_at_call 11; refine (HC.out _ _ _ _ (by assumption)).mono ?_; rintro e w2 ⟨rfl, rfl⟩)
            | (go_at_call 9; refine (HF.out).mono ?_; rintro e w2 ⟨rfl, rfl⟩))
          go_ret
          exact ⟨rfl, hbz⟩
end Go.Proofs.YtoefegbbnaonoaaGreatDoor
