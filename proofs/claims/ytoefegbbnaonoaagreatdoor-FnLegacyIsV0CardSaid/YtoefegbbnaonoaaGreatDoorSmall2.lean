/- The parts of a path with small letters, put together: the walk. -/
import Derived.Test.YtoefegbbnaonoaaGreatDoorSmall
namespace Go.Proofs.YtoefegbbnaonoaaGreatDoor
open Go.RowKit Go.Lib Go.WideShapes Go.ChangeShapes
set_option linter.unusedVariables false
set_option maxRecDepth 100000
attribute [local go_sem] bs_size

def cutOf (l : List UInt8) : List UInt8 := l.take (min l.length 1000)
theorem cutOf_le (l : List UInt8) : (cutOf l).length ≤ 1000 := by unfold cutOf; rw [List.length_take]; omega
def partAt (names : List (List UInt8)) (sp : List UInt8) (zs : List Int) (i : Nat) : Part :=
  { space := spaceOf sp i 97, name := plainOf (cutOf (names.getD i [])), dis := disAt zs i }
def partK (names : List (List UInt8)) (sp : List UInt8) (zs : List Int) (k : Nat) : List Part := (List.range (min k 100)).map (partAt names sp zs)
def cellsP (p : Part) : List Value := [.int .u8 (p.space.toNat : Int), .string (bs p.name), .int .u64 (p.dis : Int)]
def cellsL (ps : List Part) : List Value := ps.flatMap cellsP
theorem partK_len (names : List (List UInt8)) (sp : List UInt8) (zs : List Int) (k : Nat) : (partK names sp zs k).length = min k 100 := by unfold partK; simp
theorem partK_more {names : List (List UInt8)} {sp : List UInt8} {zs : List Int} {k : Nat} (h : k < 100) : partK names sp zs (k + 1) = partK names sp zs k ++ [partAt names sp zs k] := by
  unfold partK
  rw [show min (k + 1) 100 = k + 1 by omega, show min k 100 = k by omega, List.range_succ, List.map_append]
  rfl
theorem partK_same {names : List (List UInt8)} {sp : List UInt8} {zs : List Int} {k : Nat} (h : ¬ k < 100) : partK names sp zs (k + 1) = partK names sp zs k := by
  unfold partK
  rw [show min (k + 1) 100 = 100 by omega, show min k 100 = 100 by omega]
theorem cellsL_add (a b : List Part) : cellsL (a ++ b) = cellsL a ++ cellsL b := List.flatMap_append
theorem cellsL_one (p : Part) : cellsL [p] = cellsP p := by simp [cellsL]
theorem cellsL_length (ps : List Part) : (cellsL ps).length = ps.length * 3 := by
  induction ps with
  | nil => rfl
  | cons p ps ih => show (cellsP p ++ cellsL ps).length = _; rw [List.length_append, ih]; simp [cellsP]; omega
theorem cellsL_at (ps : List Part) : ∀ i (h : i < ps.length), (cellsL ps)[i * 3]? = some (.int .u8 (ps[i].space.toNat : Int)) ∧ (cellsL ps)[i * 3 + 1]? = some (.string (bs ps[i].name)) ∧ (cellsL ps)[i * 3 + 2]? = some (.int .u64 (ps[i].dis : Int)) := by
  induction ps with
  | nil => intro i h; cases h
  | cons p ps ih =>
    intro i h
    cases i with
    | zero => exact ⟨rfl, rfl, rfl⟩
    | succ i =>
      have := ih i (by simpa using h)
      have e : ∀ j, (cellsL (p :: ps))[(i + 1) * 3 + j]? = (cellsL ps)[i * 3 + j]? := fun j => by
        show (cellsP p ++ cellsL ps)[(i + 1) * 3 + j]? = _
        rw [List.getElem?_append_right (by simp [cellsP]; omega)]
        congr 1
        simp [cellsP]
        omega
      have e0 := e 0
      rw [Nat.add_zero, Nat.add_zero] at e0
      rw [e0, e 1, e 2]
      simpa using this

/-- A row of parts that the call owns. -/
def OwnsP (w : World) (base : Nat) (v : Value) (ps : List Part) : Prop := w.ownsRow base 37 3 v ps.length (cellsL ps) ∧ v ≠ .slice none 0 0
theorem OwnsP.below {w w' : World} {base : Nat} {v : Value} {ps : List Part} (h : OwnsP w base v ps) (hb : Below w.heap.size w w') : OwnsP w' base v ps := by
  obtain ⟨⟨h1, h2⟩, h3⟩ := h
  refine ⟨⟨h1, ?_⟩, h3⟩
  rcases h2 with h2 | ⟨g, cap, cur, rfl, hbg, hg, rest⟩
  · exact .inl h2
  · have hlt := (Array.getElem?_eq_some_iff.1 hg).1
    exact .inr ⟨g, cap, cur, rfl, hbg, by rw [hb.block g hlt]; exact hg, rest⟩
theorem OwnsP.parts {w : World} {base : Nat} {v : Value} {ps : List Part} (h : OwnsP w base v ps) : ∃ g cap, v = .slice (some ⟨g, 0, none⟩) ps.length cap ∧ PartsAt w g ps := by
  obtain ⟨h1, h3⟩ := h
  have hc := fun g hg => h1.cells (g := g) hg
  rcases h1.2 with ⟨h2, _⟩ | ⟨g, cap, cur, rfl, hbg, hg, _⟩
  · exact absurd h2 h3
  · refine ⟨g, cap, rfl, (Array.getElem?_eq_some_iff.1 hg).1, fun i hi => ?_⟩
    obtain ⟨a, b, c⟩ := cellsL_at ps i hi
    have k := hc g rfl
    simp only [add_none, Nat.zero_add] at k
    exact ⟨k _ _ a, k _ _ b, k _ _ c⟩

def SmallRel (w : World) (names : List (List UInt8)) (sp : List UInt8) (zs : List Int) (v u : Value) (m : Nat) (wr : World) : Prop :=
  ∃ k : Nat, u = .int .i64 (k : Int) ∧ k + m = names.length ∧ OwnsP wr w.heap.size v (partK names sp zs k) ∧ Below w.heap.size w wr

theorem infoPart : (Tryz.prog.info? 37).map (fun i => (i.zero, i.size, i.bytes)) = some (some (.agg #[.int .u8 0, .string ByteArray.empty, .int .u64 0]), 3, 32) := by kernel_rfl

set_option maxHeartbeats 2000000 in
theorem idSmall_any {w : World} {A B C : Option Addr} {n cn m cm r cr : Nat} {names : List (List UInt8)} {sp : List UInt8} {zs : List Int} (hN : NamesAt w A n names) (hn : n ≤ maxLen) (hS : Bytes w B m sp) (hm : m ≤ maxLen) (hZ : IntsAt w C r zs) (hr : r ≤ maxLen) :
    Calls Tryz.prog 12 #[.slice A n cn, .slice B m cm, .slice C r cr] w fun e w' => ∃ v, e = .returned v ∧ OwnsP w' w.heap.size v (partK names sp zs names.length) ∧ Below w.heap.size w w' := by
  obtain ⟨i0, hi, hz0, hz1, hz2⟩ := info_parts infoPart
  obtain ⟨rfl, hN⟩ := hN
  have hn' := hn
  unfold maxLen at hn'
  have HN := Lib.hid hN
  have HS := Lib.hid (fun (W : World) (hW : Below w.heap.size w W) (k : Nat) (hk : k < 1000) => idSpace_any (cap := cm) (hS.below hW) hm k hk 97 (by decide))
  have HZ := Lib.hid (fun (W : World) (hW : Below w.heap.size w W) (k : Nat) (hk : k < 1000) => idDis_any (cap := cr) (hZ.below hW) hr k hk)
  have HA := Lib.hid (World.ownsRow_made (base := w.heap.size) (e := 37) (size := 3) w #[] 0 (Nat.le_refl _) (by simp) (by simp))
  have HB := Lib.hid ((Below.refl w.heap.size w).alloc (Nat.le_refl _) (.cells #[] 37))
  clear hS hm hZ hr hN hn
  go_enter Tryz.func12, Tryz.ntmps12
  go_wp2_with fail
  go_loopg [7, 13] names.length (fun m v u wr => SmallRel w names sp zs v u m wr)
  case atStart => exact ⟨0, rfl, by omega, ⟨HA.out, by simp⟩, HB.out⟩
  case round =>
    obtain ⟨k, rfl, hg, ho, hb⟩ := hrel
    by_cases hk : k < names.length
    · rcases HN.out with h | ⟨b, off, rfl, hlt, hc⟩
      · rw [h] at hk; cases hk
      · obtain ⟨Ar, Cr, ck, hby, hle, hmx⟩ := hc k hk
        clear hc
        replace ck := (hb.cell (p := ⟨b, off + k, none⟩) hlt).trans ck
        have hgd : names.getD k [] = names[k] := by simp [List.getD, List.getElem?_eq_getElem hk]
        by_cases h100 : k < 100
        · have hst : (partAt names sp zs k).name = plainOf (cutOf names[k]) := by unfold partAt; rw [hgd]
          have hsp : (partAt names sp zs k).space = spaceOf sp k 97 := rfl
          have hds : (partAt names sp zs k).dis = disAt zs k := rfl
          have hmore := Lib.hid (partK_more (names := names) (sp := sp) (zs := zs) h100)
          have hlen := partK_len names sp zs k
          rw [show min k 100 = k by omega] at hlen
          have HSk := Lib.hid (HS.out wr hb k (by omega))
          have HZk := Lib.hid (fun (W : World) (hW : Below w.heap.size w W) => HZ.out W hW k (by omega))
          rw [← hsp] at HSk
          rw [← hds] at HZk
          have HC := Lib.hid (idCut_any (w := wr) (A := Ar) hle)
          have HPl := Lib.hid (anPlain_any (cap := Cr) ((hby.below hb).take (min names[k].length 1000) (by omega)) (by omega))
          rw [show plainOf (names[k].take (min names[k].length 1000)) = (partAt names sp zs k).name from hst.symm] at HPl
          obtain ⟨L, hL⟩ : ∃ L, names[k].length = L := ⟨_, rfl⟩
          rw [hL] at ck HC HPl
          obtain ⟨p, hp⟩ : ∃ p, partAt names sp zs k = p := ⟨_, rfl⟩
          rw [hp] at hmore HSk HZk HPl
          clear hst hsp hds hgd hby hle hmx hL hp
          go_wp2_with (first
            | (go_at_call 24; refine (HSk.out).mono ?_; rintro e w2 ⟨rfl, rfl⟩)
            | (go_at_call 11; refine (HC.out).mono ?_; rintro e w2 ⟨rfl, rfl⟩)
            | (go_at_call 10; refine (HPl.out).mono ?_; rintro e w3 ⟨rfl, hb3⟩)
            | (go_at_call 25; refine (HZk.out _ (hb.trans (hb3.mono hb.size))).mono ?_; rintro e w4 ⟨rfl, rfl⟩)
            | (at_builtin; refine wpList_append_own _ rfl _ _ 27 rfl w.heap.size 37 i0 (.agg #[.int .u8 0, .string ByteArray.empty, .int .u64 0]) 3 32 Tryz.underlying27 hi hz0 hz1 hz2 rfl (by decide) _ _ _ rfl ((ho.below hb3).1.alloc _) ⟨w3.heap.size, 0, none⟩ 1 1 (cellsP p) rfl rfl ?c1 ?c2 ?c3 ?c4 ?c5 ?_))
          case c1 =>
            intro j u hj
            rw [add_none, Nat.zero_add]
            have hB := Blk.new w3 37 #[.int .u8 (p.space.toNat : Int), .string (bs p.name), .int .u64 (p.dis : Int)]
            rw [hB.cell]
            simpa [cellsP] using hj
          case c2 => intro u hu; simp [cellsP] at hu; rcases hu with rfl | rfl | rfl <;> rfl
          case c3 => unfold maxLen; omega
          case c4 => omega
          case c5 => have := hb.size; have := hb3.size; simp; omega
          intro v' w5 hown' hgrow hnil
          have hbb := hb.trans (hb3.mono hb.size)
          have hb5 : Below w.heap.size w w5 := (hbb.alloc hbb.size _).grown hgrow (by simp; exact Nat.le_succ_of_le hbb.size) (fun j hj => (ho.1.lt j hj).1)
          have ho5 : OwnsP w5 w.heap.size v' (partK names sp zs (k + 1)) := by
            refine ⟨?_, fun h => hnil h⟩
            rw [hmore.out, cellsL_add, cellsL_one, List.length_append, hlen]
            exact hown'
          clear hown' hgrow hnil ho hb hb3 hbb
          go_wp2_with fail
          go_roundg (names.length - (k + 1))
          case measure => omega
          case rel => exact ⟨k + 1, by go_num, by omega, ho5, hb5⟩
        · have hsame := Lib.hid (partK_same (names := names) (sp := sp) (zs := zs) h100)
          clear hgd hby hle hmx
          go_wp2_with fail
          go_roundg (names.length - (k + 1))
          case measure => omega
          case rel => exact ⟨k + 1, by go_num, by omega, by rw [hsame.out]; exact ho, hb⟩
    · have hk2 : k = names.length := by omega
      subst hk2
      go_wp2_with fail
      go_ret
      exact ⟨_, rfl, ho, hb⟩
end Go.Proofs.YtoefegbbnaonoaaGreatDoor
