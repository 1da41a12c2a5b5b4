/- FnLegacyLonger: the walk. -/
import Derived.Test.YtepcpmeblidkgaaDoorLawTwo
import Derived.Test.YtepcpmeblidkgaaDoorOldFew
import Derived.Test.YtepcpmeblidkgaaDoorSpecB62
namespace Go.Proofs.YtepcpmeblidkgaaDoor
open Go.RowKit Go.Lib
set_option linter.unusedVariables false
set_option maxRecDepth 100000
attribute [local go_sem] bs_size bs_toList

theorem lgNumber_any {w : World} {B : Nat} (hp : Pow w B) (n : Nat) (hn : n ≤ 9223372036854775807) :
    Calls Tryd.prog 27 #[.int .i64 (n : Int)] w fun e w' => e = .returned (.string (bs (decDigits n))) ∧ Below w.heap.size w w' := by
  have H := Lib.hid (itoa_any hp n hn)
  clear hp hn
  go_enter Tryd.func27, Tryd.ntmps27
  go_wp2_with (go_at_call 46; refine (H.out).mono ?_; rintro e w2 ⟨rfl, hb2⟩)
  go_ret
  exact ⟨rfl, hb2⟩
theorem strs_snoc {w : World} {v : Value} {I : List (List UInt8)} {L : List UInt8} (h : StrsAt w v (I ++ [L])) :
    ∃ b off c, v = .slice (some ⟨b, off, none⟩) (I.length + 1) c ∧ I.length + 1 ≤ c ∧ c ≤ maxLen ∧ w.cell? ⟨b, off + I.length, none⟩ = some (.string (bs L)) ∧ StrsAt w (.slice (some ⟨b, off, none⟩) I.length c) I ∧ StrsAt w (.slice (some ⟨b, off, none⟩) (I.length + 1) c) (I ++ [L]) := by
  have h' := h
  obtain ⟨A, c, rfl, h1, h2, h3⟩ := h
  rcases h3 with h3 | ⟨b, off, rfl, hlt, hc⟩
  · simp at h3
  · have e : (I ++ [L]).length = I.length + 1 := by simp
    rw [e] at h1 h'
    refine ⟨b, off, c, by rw [e], h1, h2, ?_, ⟨_, c, rfl, by omega, h2, .inr ⟨b, off, rfl, hlt, fun i hi => ?_⟩⟩, h'⟩
    · have := hc I.length (by rw [e]; omega)
      rw [this]
      simp
    · have := hc i (by rw [e]; omega)
      rw [this, List.getElem_append_left hi]
theorem StrsAt.drew {w : World} {v : Value} {ls : List (List UInt8)} (h : StrsAt w v ls) : StrsAt w.drew v ls := h
theorem StrsAt.drewN {w : World} {v : Value} {ls : List (List UInt8)} (h : StrsAt w v ls) (n : Nat) : StrsAt (w.drewN n) v ls := h
theorem oldSays_few {B h : List UInt8} (hh1 : h.length = 16) (hh2 : ∀ c ∈ h, hexLo c = some (hexV c)) (hh3 : pop16 (maskH h) < 5) (hBl : B.length ≤ 300000000) :
    OldSays (95 :: 90 :: 78 :: (B ++ (49 :: 55 :: 104 :: (h ++ [69])))) [] false := fun W => old_few hh1 hh2 hh3 hBl

set_option maxHeartbeats 4000000 in
theorem legacyLonger_walk (w : World) (hP : Pow w w.heap.size) (A1 : Option Addr) (n1 c1 : Nat) (names : List (List UInt8)) (hN : NamesAt w A1 n1 names) (k1 : n1 ≤ maxLen ∧ n1 ≤ c1)
    (A3 : Option Addr) (n3 c3 : Nat) (l3 : List UInt8) (h3 : Bytes w A3 n3 l3) (k3 : n3 ≤ maxLen ∧ n3 ≤ c3) (i : Int) (hi : (Lit.int .i64 i).wf = true) :
    Calls Tryd.prog 5 #[.slice A1 n1 c1, .slice A3 n3 c3, .int .i64 i] w fun e w' => e = .returned (.bool true) ∧ Below w.heap.size w w' := by
  have HF := Lib.hid (zzFits1_any (cap := c1) hN k1.1)
  cases hfit : fitsN names with
  | false =>
    rw [hfit] at HF
    clear hN h3
    go_enter Tryd.func5, Tryd.ntmps5
    go_wp2_with (go_at_call 25; refine (HF.out).mono ?_; rintro e w2 ⟨rfl, rfl⟩)
    go_ret
    exact ⟨rfl, Below.refl _ _⟩
  | true =>
    rw [hfit] at HF
    clear hfit
    by_cases hz3 : 2147483647 < n3
    · have hz' : decide ((2147483647 : Int) < (n3 : Int)) = true := decide_eq_true (by omega)
      clear hz3 hN h3
      go_enter Tryd.func5, Tryd.ntmps5
      go_wp2_with (go_at_call 25; refine (HF.out).mono ?_; rintro e w2 ⟨rfl, rfl⟩)
      go_ret
      exact ⟨rfl, Below.refl _ _⟩
    have hz3' : decide ((2147483647 : Int) < (n3 : Int)) = false := decide_eq_false (by omega)
    have hwn := lgWordsOf_names names
    have hwl := lgWordsOf_len names
    have hwp := lgWordsOf_pos names
    have hwh := lgWordsOf_head names
    have HW := Lib.hid (lgWords_any (cn := c1) hN k1.1)
    have HH := Lib.hid (fun (W : World) (hW : Below w.heap.size w W) => lgHash_any (cn := c3) (h3.below hW) k3.1)
    have hok := fun (h : 8 ≤ pop16 (maskH (hashK l3 16))) => hashK_ok (l := l3) (Nat.le_trans (by decide) h)
    have hM1 := hashK_len l3 16
    have hM2 := hashK_bytes l3 16
    have hM3 := fun (h : 5 ≤ pop16 (maskH (hashK l3 16))) => hashK_ok (l := l3) h
    generalize hashK l3 16 = M at *
    generalize lgWordsOf names = ws at *
    obtain ⟨I, L, rfl⟩ : ∃ I L, ws = I ++ [L] := ⟨ws.dropLast, ws.getLast hwp, (List.dropLast_concat_getLast hwp).symm⟩
    have hIn : ∀ v ∈ I, NameTo v v ∧ v.length ≤ 1000000 := fun v hv => ⟨(hwn v (by simp [hv])).1, by have := (hwn v (by simp [hv])).2; omega⟩
    have hLn := hwn L (by simp)
    have hNI : NamesTo I I := words_names hIn
    have hNN : NamesTo (I ++ [L]) (I ++ [L]) := hNI.append (.cons hLn.1 (by omega) .nil)
    have hIl : I.length ≤ 99 := by simp at hwl; omega
    have hIb := lgBody_len (namesTo_len hNI)
    have hLlen := hLn.2
    obtain ⟨r, hr⟩ : ∃ r : Nat, i % 1152921504606846976 = (r : Int) := ⟨(i % 1152921504606846976).toNat, by omega⟩
    have hr2 : r < 1152921504606846976 := by omega
    have HI := Lib.hid (fun W => idAt_any hi (n := 1152921504606846976) (by decide) (by unfold big62; decide) W)
    rw [hr] at HI
    obtain ⟨k, hk⟩ : ∃ k : Nat, L.length + 1 + r = k := ⟨_, rfl⟩
    have hki : (L.length : Int) + 1 + (r : Int) = (k : Int) := by omega
    have hk2 : k ≤ 1152921504606848000 := by omega
    have hdk := decDigits_len 18 k (by omega)
    have HNu := Lib.hid (fun (W : World) (hW : Below w.heap.size w W) => (lgNumber_any (hP.keep hW (Nat.le_refl _)) k (by omega)).mono fun e w' h => (show e = .returned (.string (bs (decDigits k))) ∧ Below w.heap.size w w' ∧ Below W.heap.size W w' from ⟨h.1, hW.trans (h.2.mono hW.size), h.2⟩))
    have hT : LgTail (decDigits k ++ L) false := by
      obtain ⟨c, t, e1, e2, e3⟩ := hwh L (by simp)
      rw [e1]
      exact lgTail_longer e2 e3 (by rw [← e1]; omega)
    obtain ⟨Sf, hSf⟩ : ∃ x, (49 : UInt8) :: 55 :: 104 :: (M ++ [69]) = x := ⟨_, rfl⟩
    have hSl : Sf.length = 20 := by rw [← hSf]; simp; omega
    obtain ⟨Pf, hPf⟩ : ∃ x, (95 : UInt8) :: 90 :: 78 :: lgBody I = x := ⟨_, rfl⟩
    have hPl : Pf.length ≤ 100000000 := by rw [← hPf]; simp; omega
    have hS : lgSym I M = Pf ++ Sf := by rw [← hPf, ← hSf]; simp [lgSym]
    have hSn : (Pf ++ Sf).length = Pf.length + 20 := by simp; omega
    have HS := Lib.hid (fun (W : World) (hW : Below w.heap.size w W) (v : Value) (hv : StrsAt W v I) => (by
      have := lgSymbol_any (h := M) ((hP.keep hW (Nat.le_refl _)).up hW.size (Nat.le_refl _)) hv (namesTo_len hNI) (by omega) (by omega)
      rw [hS] at this
      exact this : Calls Tryd.prog 24 #[v, .string (bs M)] W fun e w' => e = .returned (.string (bs (Pf ++ Sf))) ∧ Below W.heap.size W w'))
    have hxa0 : (bs (Pf ++ Sf)).extract 0 Pf.length = bs Pf := by rw [bs_to]; simp
    have hxb0 : (bs (Pf ++ Sf)).extract Pf.length (Pf.length + 20) = bs Sf := by
      have := bs_from (Pf ++ Sf) Pf.length
      rw [hSn] at this
      simpa using this
    obtain ⟨S, hSS⟩ : ∃ x, Pf ++ Sf = x := ⟨_, rfl⟩
    rw [hSS] at hxa0 hxb0 hSn HS
    obtain ⟨pn, hpn⟩ : ∃ n, Pf.length = n := ⟨_, rfl⟩
    rw [hpn] at hxa0 hxb0 hSn hPl
    have hwp1 : IntKind.i64.wrap (pn : Int) = (pn : Int) := by simp only [IntKind.wrap_i64]; omega
    have hwp2 : IntKind.i64.wrap ((L.length : Int) + 1) = (L.length : Int) + 1 := by simp only [IntKind.wrap_i64]; omega
    have hwp4 : IntKind.i64.wrap (k : Int) = (k : Int) := by simp only [IntKind.wrap_i64]; omega
    have hwp3 : IntKind.i64.wrap ((L.length : Int) + 1 + (r : Int)) = (k : Int) := by simp only [IntKind.wrap_i64]; omega
    obtain ⟨X1, hX1⟩ : ∃ x, Pf ++ decDigits k = x := ⟨_, rfl⟩
    obtain ⟨X2, hX2⟩ : ∃ x, X1 ++ L = x := ⟨_, rfl⟩
    obtain ⟨X3, hX3⟩ : ∃ x, X2 ++ Sf = x := ⟨_, rfl⟩
    have b1 : X1.length ≤ 100000019 := by rw [← hX1]; simp [hpn]; omega
    have b2 : X2.length ≤ 100001019 := by rw [← hX2]; simp; omega
    have a1 : ∀ W, (Op.stringOp .add (bs Pf) (bs (decDigits k))).run Tryd.prog W = .ok (.string (bs X1)) W := by rw [← hX1]; exact add_bs Pf _ (by rw [hpn]; omega)
    have a2 : ∀ W, (Op.stringOp .add (bs X1) (bs L)).run Tryd.prog W = .ok (.string (bs X2)) W := by rw [← hX2]; exact add_bs X1 _ (by omega)
    have a3 : ∀ W, (Op.stringOp .add (bs X2) (bs Sf)).run Tryd.prog W = .ok (.string (bs X3)) W := by rw [← hX3]; exact add_bs X2 _ (by omega)
    have hX : X3 = 95 :: 90 :: 78 :: (lgBody I ++ (decDigits k ++ L) ++ (49 :: 55 :: 104 :: (M ++ [69]))) := by rw [← hX3, ← hX2, ← hX1, ← hPf, ← hSf]; simp
    have HO : OldSays X3 [] false := by
      rw [hX]
      by_cases h5 : 5 ≤ pop16 (maskH M)
      · exact oldSays_no hNI hT (hM3 h5) (by omega) (by simp; omega)
      · exact oldSays_few hM1 hM2 (by omega) (by simp; omega)
    replace HO := Lib.hid (fun W => oldImpl_any HO W)
    obtain ⟨Z, hZ⟩ : ∃ Z, zeroOpts = Z := ⟨_, rfl⟩
    rw [hZ] at HO
    unfold zeroOpts at hZ
    subst hZ
    have HPa := Lib.hid (fun (W : World) (v : Value) (hS : StrsAt W v (I ++ [L])) => lgPath_any hS (namesTo_len hNN) (by simp; omega))
    have HT := Lib.hid (fun (h8 : 8 ≤ pop16 (maskH M)) (W : World) (hW : Below w.heap.size w W) (v : Value) (hS : StrsAt W v (I ++ [L])) => (lgTold_yes (w := W) ((hP.keep hW (Nat.le_refl _)).up hW.size (Nat.le_refl _)) hS hNN (hok h8) (by simp; omega)).mono fun e w' h => (show e = .returned (.bool true) ∧ Below w.heap.size w w' from ⟨h.1, hW.trans (h.2.mono hW.size)⟩))
    clear hN h3 k1 k3 hz3 hP hok hwn hwl hNN hwp hwh hM1 hM2 hM3 hIn hLn hNI hIb hT hS hX hX1 hX2 hX3 hSf hPf hr hdk b1 b2 hSS hpn hSl
    generalize pop16 (maskH M) = p at *
    generalize lgPath (I ++ [L]) = T at *
    by_cases h8 : 8 ≤ p
    · replace HT := Lib.hid (HT.out h8)
      rw [decide_eq_true h8] at HH
      clear h8
      go_enter Tryd.func5, Tryd.ntmps5
      go_wp2_with (first
        | (go_at_call 25; refine (HF.out).mono ?_; rintro e w1 ⟨rfl, rfl⟩)
        | (go_at_call 26; refine (HW.out).mono ?_; rintro e w2 ⟨v, rfl, hv, hb2⟩; obtain ⟨b, off, c, rfl, hc1, hc2, hcl, hsI, hsN⟩ := strs_snoc hv.strs)
        | (go_at_call 19; refine (HH.out _ hb2).mono ?_; rintro e w3 ⟨rfl, hb3⟩; have hcl3 := (hb3.cell (p := ⟨b, off + I.length, none⟩) (World.block_lt_of_cell? _ _ hcl)).trans hcl; have hsI3 := hsI.below hb3; have hsN3 := hsN.below hb3; replace hb3 := hb2.trans (hb3.mono hb2.size))
        | (go_at_call 24; refine (HS.out _ hb3 _ hsI3).mono ?_; rintro e w4 ⟨rfl, hb4⟩; have hsN4 := hsN3.below hb4; replace hb4 := hb3.trans (hb4.mono hb3.size)))
      go_region_with (first
        | (go_at_call 18; refine (HI.out _).mono ?_; rintro e w5 ⟨rfl, rfl⟩)
        | (go_at_call 27; refine (HNu.out _ (by repeat (first | exact hb4 | refine Below.drew ?_ | refine below_drewN ?_ _))).mono ?_; rintro e w6 ⟨rfl, hb6, hb6b⟩; have hsN6 := StrsAt.below (by repeat (first | exact hsN4 | refine StrsAt.drew ?_ | refine StrsAt.drewN ?_ _)) hb6b))
      all_goals
        go_wp2_with (first
          | (go_at_call 23; refine (HO.out _).mono ?_; rintro e w7 ⟨rfl, hb7⟩; have hsN7 := hsN6.below hb7; replace hb7 := hb6.trans (hb7.mono hb6.size))
          | (go_at_call 28; refine (HPa.out _ _ hsN7).mono ?_; rintro e w8 ⟨rfl, hw8⟩; subst hw8)
          | (go_at_call 20; refine (HT.out _ hb7 _ hsN7).mono ?_; rintro e w9 ⟨rfl, hb9⟩))
        go_ret
        exact ⟨rfl, hb9⟩
    · rw [decide_eq_false h8] at HH
      clear h8 HT
      go_enter Tryd.func5, Tryd.ntmps5
      go_wp2_with (first
        | (go_at_call 25; refine (HF.out).mono ?_; rintro e w1 ⟨rfl, rfl⟩)
        | (go_at_call 26; refine (HW.out).mono ?_; rintro e w2 ⟨v, rfl, hv, hb2⟩; obtain ⟨b, off, c, rfl, hc1, hc2, hcl, hsI, hsN⟩ := strs_snoc hv.strs)
        | (go_at_call 19; refine (HH.out _ hb2).mono ?_; rintro e w3 ⟨rfl, hb3⟩; have hcl3 := (hb3.cell (p := ⟨b, off + I.length, none⟩) (World.block_lt_of_cell? _ _ hcl)).trans hcl; have hsI3 := hsI.below hb3; have hsN3 := hsN.below hb3; replace hb3 := hb2.trans (hb3.mono hb2.size))
        | (go_at_call 24; refine (HS.out _ hb3 _ hsI3).mono ?_; rintro e w4 ⟨rfl, hb4⟩; have hsN4 := hsN3.below hb4; replace hb4 := hb3.trans (hb4.mono hb3.size)))
      go_region_with (first
        | (go_at_call 18; refine (HI.out _).mono ?_; rintro e w5 ⟨rfl, rfl⟩)
        | (go_at_call 27; refine (HNu.out _ (by repeat (first | exact hb4 | refine Below.drew ?_ | refine below_drewN ?_ _))).mono ?_; rintro e w6 ⟨rfl, hb6, hb6b⟩))
      all_goals
        go_wp2_with (go_at_call 23; refine (HO.out _).mono ?_; rintro e w7 ⟨rfl, hb7⟩; replace hb7 := hb6.trans (hb7.mono hb6.size))
        go_ret
        exact ⟨rfl, hb7⟩
end Go.Proofs.YtepcpmeblidkgaaDoor
