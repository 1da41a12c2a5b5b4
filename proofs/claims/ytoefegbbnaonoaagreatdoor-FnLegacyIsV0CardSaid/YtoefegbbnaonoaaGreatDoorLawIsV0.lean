/- FnLegacyIsV0: the walk (and that a hash with fewer than five different digits is none). -/
import Derived.Test.YtoefegbbnaonoaaGreatDoorLgGate
import Derived.Test.YtoefegbbnaonoaaGreatDoorSmall2
import Derived.Test.YtoefegbbnaonoaaGreatDoorNames
import Derived.Test.YtoefegbbnaonoaaGreatDoorText
import Derived.Test.YtoefegbbnaonoaaGreatDoorLaidC
namespace Go.Proofs.YtoefegbbnaonoaaGreatDoor
open Go.RowKit Go.Lib Go.WideShapes Go.ChangeShapes
set_option linter.unusedVariables false
set_option maxRecDepth 100000
section
open Go.Maps Go.WideMaps
attribute [local go_sem] bs_size bs_get0
set_option maxHeartbeats 4000000 in
theorem old_few {w : World} {B h : List UInt8} (hh1 : h.length = 16) (hh2 : ∀ c ∈ h, hexLo c = some (hexV c)) (hh3 : pop16 (maskH h) < 5) (hBl : B.length ≤ 300000000) :
    Calls Tryz.prog 39 #[.string (bs (95 :: 90 :: 78 :: (B ++ (49 :: 55 :: 104 :: (h ++ [69]))))), .slice none 0 0] w fun e w' =>
      e = .returned (.tuple #[.string (bs []), .bool false]) ∧ Below w.heap.size w w' := by
  have hmf : ∀ (fn : Fn) (first cap : Array Value) (w : World), (Instr.makeFunc fn first cap).run Tryz.prog w = .ok (.func fn first cap) w := fun _ _ _ _ => rfl
  obtain ⟨R, hR⟩ : ∃ R, B ++ (49 :: 55 :: 104 :: (h ++ [69])) = R := ⟨_, rfl⟩
  have hRl : R.length = B.length + 20 := by rw [← hR]; simp; omega
  have hx3 : (bs (95 :: 90 :: 78 :: R)).extract 3 (B.length + 20 + 1 + 1 + 1) = bs R := by
    have := bs_from (95 :: 90 :: 78 :: R) 3
    rw [← hRl]
    exact this
  have hget : ∀ (k : Nat) (hk : k < 16) (hp : B.length + 3 + k < (bs R).size), (bs R)[B.length + 3 + k]'hp = h[k]'(by omega) := by
    intro k hk hp
    rw [bs_get]
    subst hR
    rw [List.getElem_append_right (by omega)]
    have e : B.length + 3 + k - B.length = k + 1 + 1 + 1 := by omega
    simp only [e, List.getElem_cons_succ]
    rw [List.getElem_append_left (by omega)]
  have hx4 : (bs R).extract 0 B.length = bs B := by rw [bs_to, ← hR]; simp
  rw [hR]
  have HH := Lib.hid hh2
  have HG := Lib.hid hget
  clear hh2 hget hR
  go_enter Tryz.func39, Tryz.ntmps39
  go_wp2_with fail
  go_loop [6, 31] (fun m i => m = .int .i64 0 ∧ i = .int .i64 0) (fun _ _ => 0)
  case atStart => exact ⟨rfl, rfl⟩
  case round =>
    obtain ⟨rfl, rfl⟩ := hrel
    go_wp2_with fail
    go_loopg [10, 11] 16 (fun g s i wr => ∃ k : Nat, s = .int .u16 (maskH (h.take k) : Int) ∧ i = .int .i64 ((B.length : Int) + 3 + (k : Int)) ∧ k + g = 16 ∧ w = wr)
    case atStart => exact ⟨0, rfl, by go_num, by omega, rfl⟩
    case round =>
      obtain ⟨k, rfl, rfl, hg, rfl⟩ := hrel
      by_cases hk : k < 16
      · have hkl : k < h.length := by omega
        have hp : B.length + 3 + k < (bs R).size := by rw [bs_size]; omega
        have hgk := HG.out k hk hp
        have hlo := HH.out h[k] (List.getElem_mem _)
        have hm1 : maskH (h.take (k + 1)) = maskH (h.take k) ||| 2 ^ hexV h[k] := by
          rw [List.take_succ_eq_append_getElem hkl, maskH_snoc]
        have hv := hexV_lt h[k]
        have hml := maskH_lt (h.take k)
        generalize h[k] = c at *
        have HD := Lib.hid (fun W => hexDigit_any hlo W)
        generalize hexV c = d at *
        clear hx3 hx4 hlo
        go_wp2_with (go_at_call 53; refine (HD.out _).mono ?_; rintro e w2 ⟨rfl, rfl⟩)
        go_roundg (16 - (k + 1))
        case measure => omega
        case rel => exact ⟨k + 1, by rw [or_pow hml hv, hm1], by go_num, by omega, rfl⟩
      · obtain rfl : k = 16 := by omega
        have ht : h.take 16 = h := List.take_of_length_le (by omega)
        have HO := Lib.hid (ones_any (maskH h) (maskH_lt h))
        rw [ht]
        have h5 : (pop16 (maskH h) : Int) < 5 := by omega
        clear hh1 hh3 HH HG ht
        go_wp2_with (go_at_call 54; refine (HO.out _).mono ?_; rintro e w2 ⟨rfl, m, rfl⟩)
        go_ret2
        exact ⟨rfl, below_drewN (Below.refl _ _) m⟩
end
attribute [local go_sem] bs_size bs_toList

def vPart (l : List UInt8) : Part := { space := 118, name := l, dis := 0 }
theorem word_plainB (names : List (List UInt8)) : ∀ w ∈ lgWordsOf names, NameOk w ∧ w ≠ [] := by
  intro w hw
  have h1 := (lgWordsOf_names names w hw).2
  unfold lgWordsOf at hw
  split at hw
  · simp at hw
    subst hw
    exact ⟨⟨by decide, by decide⟩, by simp⟩
  · unfold wordsK at hw
    obtain ⟨i, _, rfl⟩ := List.mem_map.1 hw
    exact ⟨⟨wordOf_plain _, by omega⟩, wordOf_pos _⟩
theorem vPart_ok {l : List UInt8} (h : NameOk l) : PartOk (vPart l) := ⟨show (isLow 118 || isUp 118) = true by decide, h, show (0 : Nat) ≤ 4611686018427387904 by decide⟩
theorem textR_v (crate : List UInt8) : ∀ (ls : List (List UInt8)), textR crate (ls.map vPart).reverse = lgPath (crate :: ls) := by
  have key : ∀ (ls : List (List UInt8)), textR crate (ls.map vPart) = crate ++ (ls.reverse.flatMap fun t => [58, 58] ++ t) := by
    intro ls
    induction ls with
    | nil => simp [textR]
    | cons l ls ih =>
      show textR crate (ls.map vPart) ++ toldOf (vPart l).space ((vPart l).dis : Int) (vPart l).name = _
      rw [ih]
      have : toldOf (vPart l).space ((vPart l).dis : Int) (vPart l).name = [58, 58] ++ l := by
        show toldOf 118 ((0 : Nat) : Int) l = _
        unfold toldOf
        rw [if_neg (show ¬ isUp 118 = true by decide)]
      rw [this]
      simp
  intro ls
  rw [← List.map_reverse, key, lgPath_flat]
  simp

theorem strs_cons {w : World} {v : Value} {c : List UInt8} {l : List (List UInt8)} (h : StrsAt w v (c :: l)) :
    ∃ b off cp, v = .slice (some ⟨b, off, none⟩) (l.length + 1) cp ∧ l.length + 1 ≤ cp ∧ cp ≤ maxLen ∧ b < w.heap.size ∧ w.cell? ⟨b, off, none⟩ = some (.string (bs c)) ∧ (∀ i (hi : i < l.length), w.cell? ⟨b, off + 1 + i, none⟩ = some (.string (bs l[i]))) ∧ StrsAt w (.slice (some ⟨b, off, none⟩) (l.length + 1) cp) (c :: l) := by
  have h' := h
  obtain ⟨A, cp, rfl, h1, h2, h3⟩ := h
  rcases h3 with h3 | ⟨b, off, rfl, hlt, hc⟩
  · cases h3
  · refine ⟨b, off, cp, rfl, h1, h2, hlt, ?_, fun i hi => ?_, h'⟩
    · have := hc 0 (by simp)
      exact this
    · have := hc (i + 1) (by simp; omega)
      rw [show off + (i + 1) = off + 1 + i by omega] at this
      exact this
def PartsRel (w : World) (ls : List (List UInt8)) (m : Nat) (v u : Value) (wr : World) : Prop :=
  ∃ k : Nat, u = .int .i64 (k : Int) ∧ k + m = ls.length ∧ OwnsP wr w.heap.size v ((ls.take k).map vPart) ∧ Below w.heap.size w wr

set_option maxHeartbeats 8000000 in
theorem legacyIsV0_walk (w : World) (hP : Pow w w.heap.size) (A1 : Option Addr) (n1 c1 : Nat) (names : List (List UInt8)) (hN : NamesAt w A1 n1 names) (k1 : n1 ≤ maxLen ∧ n1 ≤ c1)
    (A3 : Option Addr) (n3 c3 : Nat) (l3 : List UInt8) (h3 : Bytes w A3 n3 l3) (k3 : n3 ≤ maxLen ∧ n3 ≤ c3) :
    Calls Tryz.prog 4 #[.slice A1 n1 c1, .slice A3 n3 c3] w fun e w' => e = .returned (.bool true) ∧ Below w.heap.size w w' := by
  have HF := Lib.hid (zzFits1_any (cap := c1) hN k1.1)
  cases hfit : fitsN names with
  | false =>
    rw [hfit] at HF
    clear hN h3
    go_enter Tryz.func4, Tryz.ntmps4
    go_wp2_with (go_at_call 9; refine (HF.out).mono ?_; rintro e w2 ⟨rfl, rfl⟩)
    go_ret
    exact ⟨rfl, Below.refl _ _⟩
  | true =>
    rw [hfit] at HF
    clear hfit
    by_cases hz3 : 2147483647 < n3
    · have hz' : decide ((2147483647 : Int) < (n3 : Int)) = true := decide_eq_true (by omega)
      clear hz3 hN h3
      go_enter Tryz.func4, Tryz.ntmps4
      go_wp2_with (go_at_call 9; refine (HF.out).mono ?_; rintro e w2 ⟨rfl, rfl⟩)
      go_ret
      exact ⟨rfl, Below.refl _ _⟩
    have hz3' : decide ((2147483647 : Int) < (n3 : Int)) = false := decide_eq_false (by omega)
    have hwn := lgWordsOf_names names
    have hwl := lgWordsOf_len names
    have hwp := lgWordsOf_pos names
    have hwo := word_plainB names
    have HW := Lib.hid (lgWords_any (cn := c1) hN k1.1)
    have HH := Lib.hid (fun (W : World) (hW : Below w.heap.size w W) => lgHash_any (cn := c3) (h3.below hW) k3.1)
    have hM1 := hashK_len l3 16
    have hM2 := hashK_bytes l3 16
    have hM3 := fun (h : 5 ≤ pop16 (maskH (hashK l3 16))) => hashK_ok (l := l3) h
    generalize hashK l3 16 = M at *
    generalize lgWordsOf names = ws at *
    obtain ⟨crate, ls, rfl⟩ : ∃ c l, ws = c :: l := by
      cases ws with
      | nil => exact absurd rfl hwp
      | cons c l => exact ⟨c, l, rfl⟩
    have hNN : NamesTo (crate :: ls) (crate :: ls) := words_names fun v hv => ⟨(hwn v hv).1, by have := (hwn v hv).2; omega⟩
    have hcr := hwo crate (by simp)
    have hps : ∀ p ∈ ls.map vPart, PartOk p := by
      intro p hp
      obtain ⟨l, hl, rfl⟩ := List.mem_map.1 hp
      exact vPart_ok (hwo l (by simp [hl])).1
    have hll : ls.length ≤ 99 := by simp at hwl; omega
    have hsay := names_say hcr.2 hcr.1 (cd := 0) (by decide) (ls.map vPart).reverse (fun p hp => hps p (List.mem_reverse.1 hp)) (by simp; omega)
    have hsl := symR_len hcr.1 (cd := 0) (by decide) (ls.map vPart).reverse true (fun p hp => hps p (List.mem_reverse.1 hp))
    rw [List.length_reverse, List.length_map] at hsl
    have htx := textR_v crate ls
    rw [htx] at hsay
    have HIS := Lib.hid (fun (W : World) (g cap : Nat) (hW : Below w.heap.size w W) (hpa : PartsAt W g (ls.map vPart)) => (by
      have := idSymbol_any (cap := cap) (hP.keepB hW) hcr.1 (cd := 0) (by decide) hps (by simp; omega) hpa
      rw [List.length_map] at this
      exact this : Calls Tryz.prog 14 #[.string (bs crate), .int .u64 0, .slice (some ⟨g, 0, none⟩) ls.length cap] W fun e w' => e = .returned (.string (bs (symR crate 0 true (ls.map vPart).reverse))) ∧ Below W.heap.size W w'))
    have ha : ∀ W, (Op.stringOp .add ⟨#[95, 82]⟩ (bs (symR crate 0 true (ls.map vPart).reverse))).run Tryz.prog W = .ok (.string (bs (95 :: 82 :: symR crate 0 true (ls.map vPart).reverse))) W := add_bs [95, 82] _ (by simp at hsl ⊢; omega)
    generalize symR crate 0 true (ls.map vPart).reverse = S at *
    have HTo := Lib.hid (fun (W : World) (hW : Below w.heap.size w W) => (told_says (w := W) ((hP.keep hW (Nat.le_refl _)).up hW.size (Nat.le_refl _)) hsay))
    have HSy := Lib.hid (fun (W : World) (hW : Below w.heap.size w W) (v : Value) (hS : StrsAt W v (crate :: ls)) => lgSymbol_any (h := M) ((hP.keep hW (Nat.le_refl _)).up hW.size (Nat.le_refl _)) hS (namesTo_len hNN) (by simp; omega) (by omega))
    have hTne : lgPath (crate :: ls) ≠ [] := by
      rw [lgPath_flat]
      have := hcr.2
      simp [this]
    have hOld : ∃ r ok, OldSays (lgSym (crate :: ls) M) r ok ∧ (8 ≤ pop16 (maskH M) → r = lgPath (crate :: ls) ∧ ok = true) := by
      by_cases h5 : 5 ≤ pop16 (maskH M)
      · exact ⟨_, _, oldSays_yes hNN (hM3 h5) (by simp; omega), fun _ => ⟨rfl, rfl⟩⟩
      · refine ⟨[], false, fun W => old_few hM1 hM2 (by omega) ?_, fun h => by omega⟩
        have := lgBody_len (namesTo_len hNN)
        simp at this
        omega
    obtain ⟨r, ok, hO, hOk⟩ := hOld
    have HO := Lib.hid (fun W => oldImpl_any hO W)
    obtain ⟨Z, hZ⟩ : ∃ Z, oldOpts = Z := ⟨_, rfl⟩
    rw [hZ] at HO
    unfold oldOpts at hZ
    subst hZ
    have hTl := lgPath_len (namesTo_len hNN)
    clear hN h3 k1 k3 hz3 hP hwn hwl hNN hwp hM1 hM2 hM3 hps hsay hsl htx hO hcr hwo
    generalize pop16 (maskH M) = p at *
    generalize lgSym (crate :: ls) M = F at *
    generalize hT : lgPath (crate :: ls) = T at *
    clear hT
    obtain ⟨sd, hsd⟩ : ∃ b : Bool, decide (8 ≤ p) = b := ⟨_, rfl⟩
    rw [hsd] at HH
    have hfix : sd = true → r = T ∧ ok = true := fun h => hOk (of_decide_eq_true (hsd.trans h))
    obtain ⟨i0, hi, hz0, hz1, hz2⟩ := info_parts infoPart
    have HMade := Lib.hid (fun W : World => World.ownsRow_made (base := W.heap.size) (e := 37) (size := 3) W #[] 0 (Nat.le_refl _) (by simp) (by simp))
    have e1 : (T == ([] : List UInt8)) = false := by simpa using hTne
    have e2 : (T == T) = true := by simp
    have e3 : (T != ([] : List UInt8)) = true := by simpa using hTne
    clear hOk hsd hTne
    cases sd with
    | true =>
      obtain ⟨rfl, rfl⟩ := hfix rfl
      clear hfix
      go_enter Tryz.func4, Tryz.ntmps4
      go_wp2_with (first
        | (go_at_call 9; refine (HF.out).mono ?_; rintro e w1 ⟨rfl, rfl⟩)
        | (go_at_call 16; refine (HW.out).mono ?_; rintro e w2 ⟨v, rfl, hv, hb2⟩; obtain ⟨b, off, cp, rfl, hc1, hc2, hlt, hc0, hcl, hsN⟩ := strs_cons hv.strs; unfold maxLen at hc2; replace hcl := Lib.hid hcl; clear hv))
      all_goals
        subst_vars
        go_loopg [6, 29] ls.length (fun m v u wr => PartsRel w2 ls m v u wr)
        case atStart => exact ⟨0, rfl, by omega, ⟨HMade.out w2, by simp⟩, (Below.refl _ _).alloc (Nat.le_refl _) _⟩
        case round =>
          rename World => wr
          obtain ⟨k, rfl, hg, ho, hb⟩ := hrel
          by_cases hk : k < ls.length
          · first
            | (exfalso; omega)
            | skip
              have ck := (hb.cell (p := ⟨b, off + 1 + k, none⟩) hlt).trans (hcl.out k hk)
              have htk : (ls.take (k + 1)).map vPart = (ls.take k).map vPart ++ [vPart ls[k]] := by rw [List.take_succ_eq_append_getElem hk, List.map_append]; rfl
              have hlen : ((ls.take k).map vPart).length = k := by simp; omega
              obtain ⟨x, hx⟩ : ∃ x, ls[k] = x := ⟨_, rfl⟩
              rw [hx] at ck htk
              obtain ⟨Pk, hPk⟩ : ∃ P, (ls.take k).map vPart = P := ⟨_, rfl⟩
              rw [hPk] at ho hlen htk
              replace htk := Lib.hid htk
              clear hx hPk
              go_wp2_with (at_builtin; refine wpList_append_own _ rfl _ _ 27 rfl w2.heap.size 37 i0 (.agg #[.int .u8 0, .string ByteArray.empty, .int .u64 0]) 3 32 Tryz.underlying27 hi hz0 hz1 hz2 rfl (by decide) _ _ _ rfl (ho.1.alloc _) ⟨wr.heap.size, 0, none⟩ 1 1 (cellsP (vPart x)) rfl rfl ?c1 ?c2 ?c3 ?c4 ?c5 ?_)
              case c1 =>
                intro j u hj
                rw [add_none, Nat.zero_add]
                have hB := Blk.new wr 37 #[.int .u8 118, .string (bs x), .int .u64 0]
                rw [hB.cell]
                simpa [cellsP, vPart] using hj
              case c2 => intro u hu; simp [cellsP] at hu; rcases hu with rfl | rfl | rfl <;> rfl
              case c3 => unfold maxLen; omega
              case c4 => omega
              case c5 => have := hb.size; simp; omega
              intro v' w5 hown' hgrow hnil
              have hb5 : Below w2.heap.size w2 w5 := (hb.alloc hb.size _).grown hgrow (by simp; exact Nat.le_succ_of_le hb.size) (fun j hj => (ho.1.lt j hj).1)
              have ho5 : OwnsP w5 w2.heap.size v' ((ls.take (k + 1)).map vPart) := by
                refine ⟨?_, fun h => hnil h⟩
                rw [htk.out, cellsL_add, cellsL_one, List.length_append, hlen]
                exact hown'
              clear hown' hgrow hnil ho hb
              go_wp2_with fail
              go_roundg (ls.length - (k + 1))
              case measure => omega
              case rel => exact ⟨k + 1, by go_num, by omega, ho5, hb5⟩
          · obtain rfl : k = ls.length := by omega
            rw [List.take_length] at ho
            obtain ⟨g, cp2, rfl, hpa⟩ := ho.parts
            rw [List.length_map]
            have hbw := hb2.trans (hb.mono hb2.size)
            have hs4 := hsN.below hb
            have hc4 := (hb.cell (p := ⟨b, off, none⟩) hlt).trans hc0
            clear ho hcl
            go_wp2_with (first
              | (go_at_call 17; with_reducible refine (HH.out _ hbw).mono ?_; rintro e w5 ⟨rfl, hb5⟩; have hs5 := hs4.below hb5; have hc5 := (hb5.cell (p := ⟨b, off, none⟩) (World.block_lt_of_cell? _ _ hc4)).trans hc4; have hp5 := hpa.below hb5; have hbw5 := hbw.trans (hb5.mono hbw.size))
              | (go_at_call 19; with_reducible refine (HSy.out _ hbw5 _ hs5).mono ?_; rintro e w6 ⟨rfl, hb6⟩; have hc6 := (hb6.cell (p := ⟨b, off, none⟩) (World.block_lt_of_cell? _ _ hc5)).trans hc5; have hp6 := hp5.below hb6; have hbw6 := hbw5.trans (hb6.mono hbw5.size))
              | (go_at_call 18; with_reducible refine (HO.out _).mono ?_; rintro e w7 ⟨rfl, hb7⟩; have hc7 := (hb7.cell (p := ⟨b, off, none⟩) (World.block_lt_of_cell? _ _ hc6)).trans hc6; have hp7 := hp6.below hb7; have hbw7 := hbw6.trans (hb7.mono hbw6.size))
              | (go_at_call 14; with_reducible refine (HIS.out _ _ _ hbw7 hp7).mono ?_; rintro e w8 ⟨rfl, hb8⟩; have hbw8 := hbw7.trans (hb8.mono hbw7.size))
              | (go_at_call 20; with_reducible refine (HTo.out _ hbw8).mono ?_; rintro e w9 ⟨rfl, hb9⟩; have hbw9 := hbw8.trans (hb9.mono hbw8.size)))
            go_ret
            exact ⟨rfl, hbw9⟩
    | false =>
      skip
      clear hfix
      go_enter Tryz.func4, Tryz.ntmps4
      go_wp2_with (first
        | (go_at_call 9; refine (HF.out).mono ?_; rintro e w1 ⟨rfl, rfl⟩)
        | (go_at_call 16; refine (HW.out).mono ?_; rintro e w2 ⟨v, rfl, hv, hb2⟩; obtain ⟨b, off, cp, rfl, hc1, hc2, hlt, hc0, hcl, hsN⟩ := strs_cons hv.strs; unfold maxLen at hc2; replace hcl := Lib.hid hcl; clear hv))
      all_goals
        subst_vars
        go_loopg [6, 29] ls.length (fun m v u wr => PartsRel w2 ls m v u wr)
        case atStart => exact ⟨0, rfl, by omega, ⟨HMade.out w2, by simp⟩, (Below.refl _ _).alloc (Nat.le_refl _) _⟩
        case round =>
          rename World => wr
          obtain ⟨k, rfl, hg, ho, hb⟩ := hrel
          by_cases hk : k < ls.length
          · first
            | (exfalso; omega)
            | skip
              have ck := (hb.cell (p := ⟨b, off + 1 + k, none⟩) hlt).trans (hcl.out k hk)
              have htk : (ls.take (k + 1)).map vPart = (ls.take k).map vPart ++ [vPart ls[k]] := by rw [List.take_succ_eq_append_getElem hk, List.map_append]; rfl
              have hlen : ((ls.take k).map vPart).length = k := by simp; omega
              obtain ⟨x, hx⟩ : ∃ x, ls[k] = x := ⟨_, rfl⟩
              rw [hx] at ck htk
              obtain ⟨Pk, hPk⟩ : ∃ P, (ls.take k).map vPart = P := ⟨_, rfl⟩
              rw [hPk] at ho hlen htk
              replace htk := Lib.hid htk
              clear hx hPk
              go_wp2_with (at_builtin; refine wpList_append_own _ rfl _ _ 27 rfl w2.heap.size 37 i0 (.agg #[.int .u8 0, .string ByteArray.empty, .int .u64 0]) 3 32 Tryz.underlying27 hi hz0 hz1 hz2 rfl (by decide) _ _ _ rfl (ho.1.alloc _) ⟨wr.heap.size, 0, none⟩ 1 1 (cellsP (vPart x)) rfl rfl ?c1 ?c2 ?c3 ?c4 ?c5 ?_)
              case c1 =>
                intro j u hj
                rw [add_none, Nat.zero_add]
                have hB := Blk.new wr 37 #[.int .u8 118, .string (bs x), .int .u64 0]
                rw [hB.cell]
                simpa [cellsP, vPart] using hj
              case c2 => intro u hu; simp [cellsP] at hu; rcases hu with rfl | rfl | rfl <;> rfl
              case c3 => unfold maxLen; omega
              case c4 => omega
              case c5 => have := hb.size; simp; omega
              intro v' w5 hown' hgrow hnil
              have hb5 : Below w2.heap.size w2 w5 := (hb.alloc hb.size _).grown hgrow (by simp; exact Nat.le_succ_of_le hb.size) (fun j hj => (ho.1.lt j hj).1)
              have ho5 : OwnsP w5 w2.heap.size v' ((ls.take (k + 1)).map vPart) := by
                refine ⟨?_, fun h => hnil h⟩
                rw [htk.out, cellsL_add, cellsL_one, List.length_append, hlen]
                exact hown'
              clear hown' hgrow hnil ho hb
              go_wp2_with fail
              go_roundg (ls.length - (k + 1))
              case measure => omega
              case rel => exact ⟨k + 1, by go_num, by omega, ho5, hb5⟩
          · obtain rfl : k = ls.length := by omega
            rw [List.take_length] at ho
            obtain ⟨g, cp2, rfl, hpa⟩ := ho.parts
            rw [List.length_map]
            have hbw := hb2.trans (hb.mono hb2.size)
            have hs4 := hsN.below hb
            have hc4 := (hb.cell (p := ⟨b, off, none⟩) hlt).trans hc0
            clear ho hcl
            go_wp2_with (first
              | (go_at_call 17; with_reducible refine (HH.out _ hbw).mono ?_; rintro e w5 ⟨rfl, hb5⟩; have hs5 := hs4.below hb5; have hc5 := (hb5.cell (p := ⟨b, off, none⟩) (World.block_lt_of_cell? _ _ hc4)).trans hc4; have hp5 := hpa.below hb5; have hbw5 := hbw.trans (hb5.mono hbw.size))
              | (go_at_call 19; with_reducible refine (HSy.out _ hbw5 _ hs5).mono ?_; rintro e w6 ⟨rfl, hb6⟩; have hc6 := (hb6.cell (p := ⟨b, off, none⟩) (World.block_lt_of_cell? _ _ hc5)).trans hc5; have hp6 := hp5.below hb6; have hbw6 := hbw5.trans (hb6.mono hbw5.size))
              | (go_at_call 18; with_reducible refine (HO.out _).mono ?_; rintro e w7 ⟨rfl, hb7⟩; have hc7 := (hb7.cell (p := ⟨b, off, none⟩) (World.block_lt_of_cell? _ _ hc6)).trans hc6; have hp7 := hp6.below hb7; have hbw7 := hbw6.trans (hb7.mono hbw6.size))
              | (go_at_call 14; with_reducible refine (HIS.out _ _ _ hbw7 hp7).mono ?_; rintro e w8 ⟨rfl, hb8⟩; have hbw8 := hbw7.trans (hb8.mono hbw7.size))
              | (go_at_call 20; with_reducible refine (HTo.out _ hbw8).mono ?_; rintro e w9 ⟨rfl, hb9⟩; have hbw9 := hbw8.trans (hb9.mono hbw8.size)))
            go_ret
            exact ⟨rfl, hbw9⟩
end Go.Proofs.YtoefegbbnaonoaaGreatDoor
