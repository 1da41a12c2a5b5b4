/- The parts of a path with capital letters, put together: the walk. -/
import Derived.Test.YtoefegbbnaonoaaGreatDoorSmall2
namespace Go.Proofs.YtoefegbbnaonoaaGreatDoor
open Go.RowKit Go.Lib Go.WideShapes Go.ChangeShapes
set_option linter.unusedVariables false
set_option maxRecDepth 100000
attribute [local go_sem] bs_size

def specAt (names : List (List UInt8)) (sp : List UInt8) (zs : List Int) (i : Nat) : Part :=
  { space := spaceOf sp i 65, name := if names.getD i [] = [] then [] else plainOf (cutOf (names.getD i [])), dis := disAt zs i }
def specK (names : List (List UInt8)) (sp : List UInt8) (zs : List Int) (k : Nat) : List Part := (List.range (min k 100)).map (specAt names sp zs)
theorem specK_len (names : List (List UInt8)) (sp : List UInt8) (zs : List Int) (k : Nat) : (specK names sp zs k).length = min k 100 := by unfold specK; simp
theorem specK_more {names : List (List UInt8)} {sp : List UInt8} {zs : List Int} {k : Nat} (h : k < 100) : specK names sp zs (k + 1) = specK names sp zs k ++ [specAt names sp zs k] := by
  unfold specK
  rw [show min (k + 1) 100 = k + 1 by omega, show min k 100 = k by omega, List.range_succ, List.map_append]
  rfl
theorem specK_same {names : List (List UInt8)} {sp : List UInt8} {zs : List Int} {k : Nat} (h : ¬ k < 100) : specK names sp zs (k + 1) = specK names sp zs k := by
  unfold specK
  rw [show min (k + 1) 100 = 100 by omega, show min k 100 = 100 by omega]

def SpecRel (w : World) (names : List (List UInt8)) (sp : List UInt8) (zs : List Int) (v u : Value) (m : Nat) (wr : World) : Prop :=
  ∃ k : Nat, u = .int .i64 (k : Int) ∧ k + m = names.length ∧ OwnsP wr w.heap.size v (specK names sp zs k) ∧ Below w.heap.size w wr

/-- The part's own block, filled bit by bit. -/
theorem below_fill {w wr : World} {o : Obj} (hb : Below w.heap.size w wr) : Below w.heap.size w (wr.alloc o) := hb.alloc hb.size o

set_option maxHeartbeats 2000000 in
theorem idSpecial_any {w : World} {A B C : Option Addr} {n cn m cm r cr : Nat} {names : List (List UInt8)} {sp : List UInt8} {zs : List Int} (hN : NamesAt w A n names) (hn : n ≤ maxLen) (hS : Bytes w B m sp) (hm : m ≤ maxLen) (hZ : IntsAt w C r zs) (hr : r ≤ maxLen) :
    Calls Tryz.prog 23 #[.slice A n cn, .slice B m cm, .slice C r cr] w fun e w' => ∃ v, e = .returned v ∧ OwnsP w' w.heap.size v (specK names sp zs names.length) ∧ Below w.heap.size w w' := by
  obtain ⟨i0, hi, hz0, hz1, hz2⟩ := info_parts infoPart
  obtain ⟨rfl, hN⟩ := hN
  have hn' := hn
  unfold maxLen at hn'
  have HN := Lib.hid hN
  have HS := Lib.hid (fun (W : World) (hW : Below w.heap.size w W) (k : Nat) (hk : k < 1000) => idSpace_any (cap := cm) (hS.below hW) hm k hk 65 (by decide))
  have HZ := Lib.hid (fun (W : World) (hW : Below w.heap.size w W) (k : Nat) (hk : k < 1000) => idDis_any (cap := cr) (hZ.below hW) hr k hk)
  have HA := Lib.hid (World.ownsRow_made (base := w.heap.size) (e := 37) (size := 3) w #[] 0 (Nat.le_refl _) (by simp) (by simp))
  have HB := Lib.hid ((Below.refl w.heap.size w).alloc (Nat.le_refl _) (.cells #[] 37))
  clear hS hm hZ hr hN hn
  go_enter Tryz.func23, Tryz.ntmps23
  go_wp2_with fail
  go_loopg [7, 14] names.length (fun m v u wr => SpecRel w names sp zs v u m wr)
  case atStart => exact ⟨0, rfl, by omega, ⟨HA.out, by simp⟩, HB.out⟩
  case round =>
    obtain ⟨k, rfl, hg, ho, hb⟩ := hrel
    by_cases hk : k < names.length
    · rcases HN.out with h | ⟨b, off, rfl, hlt, hc⟩
      · rw [h] at hk; cases hk
      · obtain ⟨Ar, Cr, ck, hby, hle, hmx⟩ := hc k hk
        clear hc
        replace ck := (hb.cell (p := ⟨b, off + k, none⟩) hlt).trans ck
        have hgd : names.getD k [] = names[k] := by simp [List.getD, List.getElem?_eq_getElem hk]
        by_cases h100 : k < 100
        · have hsp : (specAt names sp zs k).space = spaceOf sp k 65 := rfl
          have hds : (specAt names sp zs k).dis = disAt zs k := rfl
          have hmore := Lib.hid (specK_more (names := names) (sp := sp) (zs := zs) h100)
          have hlen := specK_len names sp zs k
          rw [show min k 100 = k by omega] at hlen
          have HSk := Lib.hid (HS.out wr hb k (by omega))
          have HZk := Lib.hid (HZ.out wr hb k (by omega))
          rw [← hsp] at HSk
          rw [← hds] at HZk
          have hle' := hle
          unfold maxLen at hmx
          by_cases h0 : names[k] = []
          · have hst : (specAt names sp zs k).name = [] := by unfold specAt; rw [hgd]; exact if_pos h0
            rw [h0] at ck
            obtain ⟨p, hp⟩ : ∃ p, specAt names sp zs k = p := ⟨_, rfl⟩
            rw [hp] at hmore HSk HZk hst
            clear hsp hds hgd hby hle hp h0
            go_wp2_with (first
              | (go_at_call 24; refine (HSk.out).mono ?_; rintro e w2 ⟨rfl, rfl⟩)
              | (go_at_call 25; refine (HZk.out).mono ?_; rintro e w4 ⟨rfl, rfl⟩)
              | (at_builtin; refine wpList_append_own _ rfl _ _ 27 rfl w.heap.size 37 i0 (.agg #[.int .u8 0, .string ByteArray.empty, .int .u64 0]) 3 32 Tryz.underlying27 hi hz0 hz1 hz2 rfl (by decide) _ _ _ rfl ((ho.1.alloc _).alloc _) ⟨wr.heap.size + 1, 0, none⟩ 1 1 (cellsP p) rfl rfl ?c1 ?c2 ?c3 ?c4 ?c5 ?_))
            case c1 =>
              intro j u hj
              rw [add_none, Nat.zero_add]
              have hB := (Blk.new (wr.alloc (.cells #[.int .u8 (p.space.toNat : Int), .string ⟨#[]⟩, .int .u64 (p.dis : Int)] 37)) 37 #[.int .u8 (p.space.toNat : Int), .string ⟨#[]⟩, .int .u64 (p.dis : Int)])
              rw [World.size_alloc] at hB
              rw [hB.cell]
              unfold cellsP at hj
              rw [hst] at hj
              simpa [bs] using hj
            case c2 => intro u hu; simp [cellsP] at hu; rcases hu with rfl | rfl | rfl <;> rfl
            case c3 => unfold maxLen; omega
            case c4 => omega
            case c5 => have := hb.size; simp; omega
            intro v' w5 hown' hgrow hnil
            have hb5 : Below w.heap.size w w5 := ((hb.alloc hb.size _).alloc (by simp; exact Nat.le_succ_of_le hb.size) _).grown hgrow (by have := hb.size; simp; omega) (fun j hj => (ho.1.lt j hj).1)
            have ho5 : OwnsP w5 w.heap.size v' (specK names sp zs (k + 1)) := by
              refine ⟨?_, fun h => hnil h⟩
              rw [hmore.out, cellsL_add, cellsL_one, List.length_append, hlen]
              exact hown'
            clear hown' hgrow hnil ho hb
            go_wp2_with fail
            go_roundg (names.length - (k + 1))
            case measure => omega
            case rel => exact ⟨k + 1, by go_num, by omega, ho5, hb5⟩
          · have hst : (specAt names sp zs k).name = plainOf (cutOf names[k]) := by unfold specAt; rw [hgd]; exact if_neg h0
            have hL0 : (0 : Int) < (names[k].length : Int) := by have := List.length_pos_iff.2 h0; omega
            have HC := Lib.hid (fun (W : World) => idCut_any (w := W) (A := Ar) hle)
            have HPl := Lib.hid (fun (W : World) (hW : Below w.heap.size w W) => anPlain_any (cap := Cr) ((hby.below hW).take (min names[k].length 1000) (by omega)) (by omega))
            rw [show plainOf (names[k].take (min names[k].length 1000)) = (specAt names sp zs k).name from hst.symm] at HPl
            obtain ⟨L, hL⟩ : ∃ L, names[k].length = L := ⟨_, rfl⟩
            rw [hL] at ck HC HPl hL0
            obtain ⟨p, hp⟩ : ∃ p, specAt names sp zs k = p := ⟨_, rfl⟩
            rw [hp] at hmore HSk HZk HPl
            have HW := Lib.hid (fun o => below_fill hb (o := o))
            clear hst hsp hds hgd hby hle hle' hmx hL hp h0
            go_wp2_with (first
              | (go_at_call 24; refine (HSk.out).mono ?_; rintro e w2 ⟨rfl, rfl⟩)
              | (go_at_call 25; refine (HZk.out).mono ?_; rintro e w4 ⟨rfl, rfl⟩)
              | (go_at_call 11; refine (HC.out _).mono ?_; rintro e w2 ⟨rfl, rfl⟩)
              | (go_at_call 10; refine (HPl.out _ (HW.out _)).mono ?_; rintro e w3 ⟨rfl, hb3⟩; have hB := (Blk.new wr 37 #[.int .u8 (p.space.toNat : Int), .string ⟨#[]⟩, .int .u64 (p.dis : Int)]).below hb3 (by simp); have d0 := hB.cell 0; have d1 := hB.cell 1; have d2 := hB.cell 2; have f1 := hB.frozen 1; simp only [List.getElem?_toArray, List.getElem?_cons_zero, List.getElem?_cons_succ] at d0 d1 d2)
              | (at_builtin; refine wpList_append_own _ rfl _ _ 27 rfl w.heap.size 37 i0 (.agg #[.int .u8 0, .string ByteArray.empty, .int .u64 0]) 3 32 Tryz.underlying27 hi hz0 hz1 hz2 rfl (by decide) _ _ _ rfl ((ho.below ((((Below.refl _ _).alloc (Nat.le_refl _) _).trans (hb3.mono (by simp))).setCell (p := ⟨wr.heap.size, 1, none⟩) (Nat.le_refl _) _)).1.alloc _) ⟨w3.heap.size, 0, none⟩ 1 1 (cellsP p) ?c0 rfl ?c1 ?c2 ?c3 ?c4 ?c5 ?_))
            case c0 => rfl
            case c1 =>
              intro j u hj
              rw [add_none, Nat.zero_add]
              have hB2 := (Blk.new (w3.setCell ⟨wr.heap.size, 1, none⟩ (.string (bs p.name))) 37 #[.int .u8 (p.space.toNat : Int), .string (bs p.name), .int .u64 (p.dis : Int)])
              rw [show (w3.setCell ⟨wr.heap.size, 1, none⟩ (.string (bs p.name))).heap.size = w3.heap.size by simp] at hB2
              rw [hB2.cell]
              simpa [cellsP] using hj
            case c2 => intro u hu; simp [cellsP] at hu; rcases hu with rfl | rfl | rfl <;> rfl
            case c3 => unfold maxLen; omega
            case c4 => omega
            case c5 => have := hb.size; have := hb3.size; simp at this ⊢; omega
            intro v' w5 hown' hgrow hnil
            have hbW : Below w.heap.size w ((w3.setCell ⟨wr.heap.size, 1, none⟩ (.string (bs p.name))).alloc (.cells #[.int .u8 (p.space.toNat : Int), .string (bs p.name), .int .u64 (p.dis : Int)] 37)) :=
              (((HW.out _).trans (hb3.mono (by have := hb.size; simp; omega))).setCell (p := ⟨wr.heap.size, 1, none⟩) hb.size _).alloc (by have := hb.size; have := hb3.size; simp at this ⊢; omega) _
            have hb5 : Below w.heap.size w w5 := hbW.grown hgrow hbW.size (fun j hj => (ho.1.lt j hj).1)
            have ho5 : OwnsP w5 w.heap.size v' (specK names sp zs (k + 1)) := by
              refine ⟨?_, fun h => hnil h⟩
              rw [hmore.out, cellsL_add, cellsL_one, List.length_append, hlen]
              exact hown'
            clear hown' hgrow hnil ho hb hb3 hbW hB
            go_wp2_with fail
            go_roundg (names.length - (k + 1))
            case measure => omega
            case rel => exact ⟨k + 1, by go_num, by omega, ho5, hb5⟩
        · have hsame := Lib.hid (specK_same (names := names) (sp := sp) (zs := zs) h100)
          clear hgd hby hle hmx
          go_wp2_with fail
          go_roundg (names.length - (k + 1))
          case measure => omega
          case rel => exact ⟨k + 1, by go_num, by omega, by rw [hsame.out]; exact ho, hb⟩
    · have hk2 : k = names.length := by omega
      subst hk2
      go_wp2_with fail
      go_ret
      exact ⟨_, rfl, ho, hb⟩
end Go.Proofs.YtoefegbbnaonoaaGreatDoor
