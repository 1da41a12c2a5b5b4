/- Old-style names, the reference's side: lists of words, paths, symbols: the walks. -/
import Derived.Test.YtoefegbbnaonoaaGreatDoorLgBits
import Derived.Test.YtoefegbbnaonoaaGreatDoorSmall
import Derived.Laws.AppendOwn
import Derived.Deep.LoopGhost
namespace Go.Proofs.YtoefegbbnaonoaaGreatDoor
open Go.RowKit Go.Lib Go.WideShapes Go.ChangeShapes
set_option linter.unusedVariables false
set_option maxRecDepth 100000
attribute [local go_sem] bs_size

/-- A list of texts. -/
def StrsAt (w : World) (v : Value) (ls : List (List UInt8)) : Prop :=
  ∃ A c, v = .slice A ls.length c ∧ ls.length ≤ c ∧ c ≤ maxLen ∧ (ls = [] ∨ ∃ b off, A = some ⟨b, off, none⟩ ∧ b < w.heap.size ∧ ∀ i (h : i < ls.length), w.cell? ⟨b, off + i, none⟩ = some (.string (bs ls[i])))
theorem StrsAt.below {w w' : World} {v : Value} {ls : List (List UInt8)} (h : StrsAt w v ls) (hb : Below w.heap.size w w') : StrsAt w' v ls := by
  obtain ⟨A, c, hv, h1, h2, h3⟩ := h
  refine ⟨A, c, hv, h1, h2, ?_⟩
  rcases h3 with h3 | ⟨b, off, hA, hlt, hc⟩
  · exact .inl h3
  · exact .inr ⟨b, off, hA, Nat.lt_of_lt_of_le hlt hb.size, fun i hi => (hb.cell (p := ⟨b, off + i, none⟩) hlt).trans (hc i hi)⟩

def cellsS (ls : List (List UInt8)) : List Value := ls.map fun l => .string (bs l)
theorem cellsS_length (ls : List (List UInt8)) : (cellsS ls).length = ls.length := by simp [cellsS]
theorem cellsS_snoc (ls : List (List UInt8)) (l : List UInt8) : cellsS (ls ++ [l]) = cellsS ls ++ [.string (bs l)] := by simp [cellsS]
/-- A row of texts that the call owns. -/
def OwnsS (w : World) (base : Nat) (v : Value) (ls : List (List UInt8)) : Prop := w.ownsRow base 9 1 v ls.length (cellsS ls)
theorem OwnsS.below {w w' : World} {base : Nat} {v : Value} {ps : List (List UInt8)} (h : OwnsS w base v ps) (hb : Below w.heap.size w w') : OwnsS w' base v ps := by
  obtain ⟨h1, h2⟩ := h
  refine ⟨h1, ?_⟩
  rcases h2 with h2 | ⟨g, cap, cur, rfl, hbg, hg, rest⟩
  · exact .inl h2
  · have hlt := (Array.getElem?_eq_some_iff.1 hg).1
    exact .inr ⟨g, cap, cur, rfl, hbg, by rw [hb.block g hlt]; exact hg, rest⟩
theorem OwnsS.strs {w : World} {base : Nat} {v : Value} {ls : List (List UInt8)} (h : OwnsS w base v ls) : StrsAt w v ls := by
  have hc := fun g hg => World.ownsRow.cells h (g := g) hg
  rcases h.2 with ⟨h2, h3⟩ | ⟨g, cap, cur, rfl, hbg, hg, hn, hm, _⟩
  · have : ls = [] := by simpa using h3
    subst this
    exact ⟨none, 0, h2, Nat.le_refl _, by simp [maxLen], .inl rfl⟩
  · refine ⟨some ⟨g, 0, none⟩, cap, rfl, hn, hm, .inr ⟨g, 0, rfl, (Array.getElem?_eq_some_iff.1 hg).1, fun i hi => ?_⟩⟩
    have k := hc g rfl i (.string (bs ls[i])) (by simp [cellsS, hi])
    rwa [add_none] at k

theorem lgPath_snoc : ∀ (a : List (List UInt8)) (x : List UInt8), a ≠ [] → lgPath (a ++ [x]) = lgPath a ++ [58, 58] ++ x
  | [], _, h => absurd rfl h
  | [t], x, _ => by simp [lgPath]
  | t :: u :: a, x, _ => by
    have := lgPath_snoc (u :: a) x (by simp)
    simp only [List.cons_append] at this
    simp only [List.cons_append, lgPath, this]
    simp
theorem lgPath_len {ws : List (List UInt8)} (h : ∀ w ∈ ws, w.length ≤ 1000000) : (lgPath ws).length ≤ 1000002 * ws.length := by
  match ws, h with
  | [], _ => simp [lgPath]
  | [t], h => have := h t (by simp); simp [lgPath]; omega
  | t :: u :: a, h =>
    have h1 := h t (by simp)
    have h2 := lgPath_len (ws := u :: a) fun v hv => h v (by simp at hv ⊢; right; exact hv)
    simp only [lgPath, List.length_append, List.length_cons, List.length_nil] at h2 ⊢
    omega

/-- The symbol of names. -/
def lgSym (ws : List (List UInt8)) (h : List UInt8) : List UInt8 := 95 :: 90 :: 78 :: (lgBody ws ++ (49 :: 55 :: 104 :: (h ++ [69])))

def LgSymRel (w : World) (ws : List (List UInt8)) (m : Nat) (v u : Value) (wr : World) : Prop :=
  ∃ k : Nat, u = .int .i64 (k : Int) ∧ k + m = ws.length ∧ v = .string (bs (95 :: 90 :: 78 :: lgBody (ws.take k))) ∧ Below w.heap.size w wr

set_option maxHeartbeats 2000000 in
theorem lgSymbol_any {w : World} {v : Value} {ws : List (List UInt8)} {h : List UInt8} (hP : Pow w w.heap.size) (hS : StrsAt w v ws) (hw : ∀ w ∈ ws, w.length ≤ 1000000) (hn : ws.length ≤ 1000) (hh : h.length ≤ 1000) :
    Calls Tryz.prog 19 #[v, .string (bs h)] w fun e w' => e = .returned (.string (bs (lgSym ws h))) ∧ Below w.heap.size w w' := by
  obtain ⟨A, c, rfl, hnc, hcm, hS⟩ := hS
  have HS := Lib.hid hS
  have HW := Lib.hid hw
  have HP := Lib.hid hP
  have hbl := lgBody_len hw
  clear hS hw hP
  have a1 : ∀ W, (Op.stringOp .add (bs (95 :: 90 :: 78 :: lgBody ws)) ⟨#[49, 55, 104]⟩).run Tryz.prog W = .ok (.string (bs (95 :: 90 :: 78 :: (lgBody ws ++ [49, 55, 104])))) W := fun W => add_bs _ [49, 55, 104] (by simp; omega) W
  have a2 : ∀ W, (Op.stringOp .add (bs (95 :: 90 :: 78 :: (lgBody ws ++ [49, 55, 104]))) (bs h)).run Tryz.prog W = .ok (.string (bs (95 :: 90 :: 78 :: (lgBody ws ++ ([49, 55, 104] ++ h))))) W := fun W => by
    rw [add_bs _ _ (by simp; omega) W]; simp
  have a3 : ∀ W, (Op.stringOp .add (bs (95 :: 90 :: 78 :: (lgBody ws ++ ([49, 55, 104] ++ h)))) ⟨#[69]⟩).run Tryz.prog W = .ok (.string (bs (lgSym ws h))) W := fun W => by
    rw [show (⟨#[69]⟩ : ByteArray) = bs [69] from rfl, add_bs _ _ (by simp; omega) W]; simp [lgSym]
  have A1 := Lib.hid a1
  have A2 := Lib.hid a2
  have A3 := Lib.hid a3
  clear a1 a2 a3
  go_enter Tryz.func19, Tryz.ntmps19
  go_wp2_with fail
  go_loopg [5, 10] ws.length (fun m v u wr => LgSymRel w ws m v u wr)
  case atStart => exact ⟨0, rfl, by omega, rfl, Below.refl _ _⟩
  case round =>
    obtain ⟨k, rfl, hm, rfl, hb⟩ := hrel
    by_cases hk : k < ws.length
    · rcases HS.out with h0 | ⟨b, off, rfl, hlt, hc⟩
      · rw [h0] at hk; cases hk
      have ck := (hb.cell (p := ⟨b, off + k, none⟩) hlt).trans (hc k hk)
      clear hc
      have hwl := HW.out ws[k] (List.getElem_mem _)
      have hd := decDigits_len 18 ws[k].length (by omega)
      have hbl2 := lgBody_len (ws := ws.take k) (fun v hv => HW.out v (List.mem_of_mem_take hv))
      rw [List.length_take] at hbl2
      have hnx := lgBody_next ws k hk
      have HI := Lib.hid (itoa_any (HP.out.keep hb (Nat.le_refl _)) ws[k].length (by omega))
      obtain ⟨x, hx⟩ : ∃ x, ws[k] = x := ⟨_, rfl⟩
      rw [hx] at ck hwl hd hnx HI
      clear hx
      obtain ⟨D, hD⟩ : ∃ D, decDigits x.length ++ x = D := ⟨_, rfl⟩
      have a1 : ∀ W, (Op.stringOp .add (bs (decDigits x.length)) (bs x)).run Tryz.prog W = .ok (.string (bs D)) W := fun W => by rw [← hD]; exact add_bs _ _ (by omega) W
      have hDl : D.length ≤ 1000020 := by rw [← hD]; simp; omega
      have a2 : ∀ W, (Op.stringOp .add (bs (95 :: 90 :: 78 :: lgBody (ws.take k))) (bs D)).run Tryz.prog W = .ok (.string (bs (95 :: 90 :: 78 :: lgBody (ws.take (k + 1))))) W := fun W => by
        rw [add_bs _ _ (by simp; omega) W, hnx, hD]; simp
      clear hnx hD hDl hbl2 hd
      go_wp2_with (go_at_call 33; refine (HI.out).mono ?_; rintro e w2 ⟨rfl, hb2⟩; replace hb2 := hb.trans (hb2.mono hb.size))
      go_roundg (ws.length - (k + 1))
      case measure => omega
      case rel => exact ⟨k + 1, by go_num, by omega, rfl, hb2⟩
    · obtain rfl : k = ws.length := by omega
      have a1 := A1.out
      have a2 := A2.out
      have a3 := A3.out
      rw [List.take_length]
      go_wp2_with fail
      go_ret
      refine ⟨?_, hb⟩
      show Ending.returned (.string (bs (95 :: 90 :: 78 :: (lgBody ws ++ 49 :: 55 :: 104 :: h)) ++ bs [69])) = _
      rw [bs_append]
      simp [lgSym]

def LgPathRel (w : World) (ws : List (List UInt8)) (m : Nat) (v u : Value) (wr : World) : Prop :=
  ∃ k : Nat, u = .int .i64 (k : Int) ∧ k + m = ws.length ∧ v = .string (bs (lgPath (ws.take k))) ∧ wr = w
theorem lgPath_one {ws : List (List UInt8)} (h : 0 < ws.length) : lgPath (ws.take 1) = ws[0] := by
  match ws, h with
  | t :: ts, _ => rfl
theorem lgPath_next {ws : List (List UInt8)} {k : Nat} (h : k < ws.length) (h0 : 0 < k) : lgPath (ws.take (k + 1)) = lgPath (ws.take k) ++ [58, 58] ++ ws[k] := by
  rw [List.take_succ_eq_append_getElem h, lgPath_snoc _ _ (by
    intro e
    have := congrArg List.length e
    rw [List.length_take, List.length_nil] at this
    omega)]


/-- The words of names. -/
def lgCut (l : List UInt8) : List UInt8 := l.take (min l.length 1000)
theorem lgCut_le (l : List UInt8) : (lgCut l).length ≤ 1000 := by unfold lgCut; rw [List.length_take]; omega
def wordsK (names : List (List UInt8)) (k : Nat) : List (List UInt8) := (List.range (min k 100)).map fun i => wordOf (lgCut (names.getD i []))
def lgWordsOf (names : List (List UInt8)) : List (List UInt8) := if names = [] then [[102]] else wordsK names names.length
theorem wordsK_len (names : List (List UInt8)) (k : Nat) : (wordsK names k).length = min k 100 := by unfold wordsK; simp
theorem wordsK_more {names : List (List UInt8)} {k : Nat} (h : k < 100) : wordsK names (k + 1) = wordsK names k ++ [wordOf (lgCut (names.getD k []))] := by
  unfold wordsK
  rw [show min (k + 1) 100 = k + 1 by omega, show min k 100 = k by omega, List.range_succ, List.map_append]
  rfl
theorem wordsK_same {names : List (List UInt8)} {k : Nat} (h : ¬ k < 100) : wordsK names (k + 1) = wordsK names k := by
  unfold wordsK
  rw [show min (k + 1) 100 = 100 by omega, show min k 100 = 100 by omega]
def LgWordsRel (w : World) (names : List (List UInt8)) (m : Nat) (v u : Value) (wr : World) : Prop :=
  ∃ k : Nat, u = .int .i64 (k : Int) ∧ k + m = names.length ∧ OwnsS wr w.heap.size v (wordsK names k) ∧ Below w.heap.size w wr
theorem lgInfoStr : (Tryz.prog.info? 9).map (fun i => (i.zero, i.size, i.bytes)) = some (some (.string ByteArray.empty), 1, 16) := by kernel_rfl

set_option maxHeartbeats 2000000 in
theorem lgWords_any {w : World} {A : Option Addr} {n cn : Nat} {names : List (List UInt8)} (hN : NamesAt w A n names) (hn : n ≤ maxLen) :
    Calls Tryz.prog 16 #[.slice A n cn] w fun e w' => ∃ v, e = .returned v ∧ OwnsS w' w.heap.size v (lgWordsOf names) ∧ Below w.heap.size w w' := by
  obtain ⟨i0, hi, hz0, hz1, hz2⟩ := info_parts lgInfoStr
  obtain ⟨rfl, hN⟩ := hN
  have hn' := hn
  unfold maxLen at hn'
  have HN := Lib.hid hN
  have HA := Lib.hid (World.ownsRow_made (base := w.heap.size) (e := 9) (size := 1) w #[] 0 (Nat.le_refl _) (by simp) (by simp))
  have HB := Lib.hid ((Below.refl w.heap.size w).alloc (Nat.le_refl _) (.cells #[] 9))
  clear hN hn
  go_enter Tryz.func16, Tryz.ntmps16
  go_wp2_with fail
  go_loopg [3, 9] names.length (fun m v u wr => LgWordsRel w names m v u wr)
  case atStart => exact ⟨0, rfl, by omega, HA.out, HB.out⟩
  case round =>
    obtain ⟨k, rfl, hg, ho, hb⟩ := hrel
    by_cases hk : k < names.length
    · rcases HN.out with h | ⟨b, off, rfl, hlt, hc⟩
      · rw [h] at hk; cases hk
      · obtain ⟨Ar, Cr, ck, hby, hle, hmx⟩ := hc k hk
        clear hc
        replace ck := (hb.cell (p := ⟨b, off + k, none⟩) hlt).trans ck
        have hgd : names.getD k [] = names[k] := by simp [List.getD, List.getElem?_eq_getElem hk]
        by_cases h100 : k < 100
        · have hmore := Lib.hid (wordsK_more (names := names) h100)
          rw [hgd] at hmore
          have hlen := wordsK_len names k
          rw [show min k 100 = k by omega] at hlen
          have HC := Lib.hid (idCut_any (w := wr) (A := Ar) hle)
          have HPl := Lib.hid (anWord_any (cap := Cr) ((hby.below hb).take (min names[k].length 1000) (by omega)) (by omega))
          rw [show wordOf (names[k].take (min names[k].length 1000)) = wordOf (lgCut names[k]) from rfl] at HPl
          obtain ⟨L, hL⟩ : ∃ L, names[k].length = L := ⟨_, rfl⟩
          rw [hL] at ck HC HPl
          generalize wordOf (lgCut names[k]) = x at hmore HPl
          clear hgd hby hle hmx hL
          go_wp2_with (first
            | (go_at_call 11; refine (HC.out).mono ?_; rintro e w2 ⟨rfl, rfl⟩)
            | (go_at_call 29; refine (HPl.out).mono ?_; rintro e w3 ⟨rfl, hb3⟩)
            | (at_builtin; refine wpList_append_own _ rfl _ _ 34 rfl w.heap.size 9 i0 (.string ByteArray.empty) 1 16 Tryz.underlying34 hi hz0 hz1 hz2 rfl (by decide) _ _ _ rfl ((ho.below hb3).alloc _) ⟨w3.heap.size, 0, none⟩ 1 1 [.string (bs x)] rfl rfl ?c1 ?c2 ?c3 ?c4 ?c5 ?_))
          case c1 =>
            intro j u hj
            rw [add_none, Nat.zero_add]
            have hB := Blk.new w3 9 #[.string (bs x)]
            rw [hB.cell]
            simpa using hj
          case c2 => intro u hu; simp at hu; subst hu; rfl
          case c3 => unfold maxLen; omega
          case c4 => omega
          case c5 => have := hb.size; have := hb3.size; simp; omega
          intro v' w5 hown' hgrow hnil
          have hbb := hb.trans (hb3.mono hb.size)
          have hb5 : Below w.heap.size w w5 := (hbb.alloc hbb.size _).grown hgrow (by simp; exact Nat.le_succ_of_le hbb.size) (fun j hj => (World.ownsRow.lt ho j hj).1)
          have ho5 : OwnsS w5 w.heap.size v' (wordsK names (k + 1)) := by
            unfold OwnsS
            rw [hmore.out, cellsS_snoc, List.length_append, hlen]
            exact hown'
          clear hown' hgrow hnil ho hb hb3 hbb
          go_wp2_with fail
          go_roundg (names.length - (k + 1))
          case measure => omega
          case rel => exact ⟨k + 1, by go_num, by omega, ho5, hb5⟩
        · have hsame := Lib.hid (wordsK_same (names := names) h100)
          clear hgd hby hle hmx
          go_wp2_with fail
          go_roundg (names.length - (k + 1))
          case measure => omega
          case rel => exact ⟨k + 1, by go_num, by omega, by rw [hsame.out]; exact ho, hb⟩
    · obtain rfl : k = names.length := by omega
      have hlen := wordsK_len names names.length
      obtain ⟨A0, c0, hv, hc0, hc1, -⟩ := ho.strs
      subst hv
      have hl1 := Lib.hid (fun h0 : names = [] => (show lgWordsOf names = [[102]] from if_pos h0))
      have hl2 := Lib.hid (fun h0 : names ≠ [] => (show lgWordsOf names = wordsK names names.length from if_neg h0))
      by_cases h0 : names = []
      · have hz : wordsK names names.length = [] := by rw [h0]; rfl
        rw [hz] at ho hc0
        have ho0 : wr.ownsRow w.heap.size 9 1 (.slice A0 0 c0) 0 [] := ho
        rw [hz]
        have hcn : c0 < 9223372036854775808 := by unfold maxLen at hc1; omega
        clear hlen ho hc0 hc1 hz
        go_wp2_with (at_builtin; refine wpList_append_own _ rfl _ _ 34 rfl w.heap.size 9 i0 (.string ByteArray.empty) 1 16 Tryz.underlying34 hi hz0 hz1 hz2 rfl (by decide) _ _ _ rfl (ho0.alloc _) ⟨wr.heap.size, 0, none⟩ 1 1 [.string (bs [102])] rfl rfl ?c1 ?c2 ?c3 ?c4 ?c5 ?_)
        case c1 =>
          intro j u hj
          rw [add_none, Nat.zero_add]
          have hB := Blk.new wr 9 #[.string (bs [102])]
          refine (hB.cell _).trans ?_
          simpa using hj
        case c2 => intro u hu; simp at hu; subst hu; rfl
        case c3 => unfold maxLen; omega
        case c4 => omega
        case c5 => have := hb.size; simp; omega
        intro v' w5 hown' hgrow hnil
        have hb5 : Below w.heap.size w w5 := (hb.alloc hb.size _).grown hgrow (by simp; exact Nat.le_succ_of_le hb.size) (fun j hj => (World.ownsRow.lt ho0 j hj).1)
        clear hgrow
        go_wp2
        go_ret
        exact ⟨_, rfl, by rw [hl1.out h0]; exact hown', hb5⟩
      · have hne : (((wordsK names names.length).length : Int) == 0) = false := by
          have := List.length_pos_iff.2 h0
          rw [hlen]
          simp; omega
        have HO := Lib.hid ho
        obtain ⟨L, hL⟩ : ∃ L, (wordsK names names.length).length = L := ⟨_, rfl⟩
        rw [hL] at hne HO ⊢
        clear ho hc0 hc1 hL
        go_wp2_with fail
        go_ret
        exact ⟨_, rfl, by rw [hl2.out h0]; exact HO.out, hb⟩
end Go.Proofs.YtoefegbbnaonoaaGreatDoor
