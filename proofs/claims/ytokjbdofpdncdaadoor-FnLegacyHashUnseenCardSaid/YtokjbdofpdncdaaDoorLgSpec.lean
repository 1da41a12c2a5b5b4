/- Old-style names, the reference's side: lists of words, paths, symbols: the walks. -/
import Derived.Test.YtokjbdofpdncdaaDoorLgBits
import Derived.Test.YtokjbdofpdncdaaDoorIn
import Derived.Laws.AppendOwn
import Derived.Deep.LoopGhost
namespace Go.Proofs.YtokjbdofpdncdaaDoor
open Go.RowKit Go.Lib Go.WideShapes Go.ChangeShapes
set_option linter.unusedVariables false
set_option maxRecDepth 100000
attribute [local go_sem] bs_size

/-- A list of texts. -/
def StrsAt (w : World) (v : Value) (ls : List (List UInt8)) : Prop :=
  ∃ A c, v = .slice A ls.length c ∧ ls.length ≤ c ∧ c ≤ maxLen ∧ (ls = [] ∨ ∃ b off, A = some ⟨b, off, none⟩ ∧ b < w.heap.size ∧ ∀ i (h : i < ls.length), w.cell? ⟨b, off + i, none⟩ = some (.string (bs ls[i])))
theorem StrsAt.below {w w' : World} {v : Value} {ls : List (List UInt8)} (h : StrsAt w v ls) (hb : Below w.heap.size w w') : StrsAt w' v ls := by
  obtain ⟨A, c, hv, h1, h2, h3⟩ := h
  refine ⟨A, c, hv, h1, h2, ?_⟩
  rcases h3 with h3 | ⟨b, off, hA, hlt, hc⟩
  · exact .inl h3
  · exact .inr ⟨b, off, hA, Nat.lt_of_lt_of_le hlt hb.size, fun i hi => (hb.cell (p := ⟨b, off + i, none⟩) hlt).trans (hc i hi)⟩

def cellsS (ls : List (List UInt8)) : List Value := ls.map fun l => .string (bs l)
theorem cellsS_length (ls : List (List UInt8)) : (cellsS ls).length = ls.length := by simp [cellsS]
theorem cellsS_snoc (ls : List (List UInt8)) (l : List UInt8) : cellsS (ls ++ [l]) = cellsS ls ++ [.string (bs l)] := by simp [cellsS]
/-- A row of texts that the call owns. -/
def OwnsS (w : World) (base : Nat) (v : Value) (ls : List (List UInt8)) : Prop := w.ownsRow base 9 1 v ls.length (cellsS ls)
theorem OwnsS.below {w w' : World} {base : Nat} {v : Value} {ps : List (List UInt8)} (h : OwnsS w base v ps) (hb : Below w.heap.size w w') : OwnsS w' base v ps := by
  obtain ⟨h1, h2⟩ := h
  refine ⟨h1, ?_⟩
  rcases h2 with h2 | ⟨g, cap, cur, rfl, hbg, hg, rest⟩
  · exact .inl h2
  · have hlt := (Array.getElem?_eq_some_iff.1 hg).1
    exact .inr ⟨g, cap, cur, rfl, hbg, by rw [hb.block g hlt]; exact hg, rest⟩
theorem OwnsS.strs {w : World} {base : Nat} {v : Value} {ls : List (List UInt8)} (h : OwnsS w base v ls) : StrsAt w v ls := by
  have hc := fun g hg => World.ownsRow.cells h (g := g) hg
  rcases h.2 with ⟨h2, h3⟩ | ⟨g, cap, cur, rfl, hbg, hg, hn, hm, _⟩
  · have : ls = [] := by simpa using h3
    subst this
    exact ⟨none, 0, h2, Nat.le_refl _, by simp [maxLen], .inl rfl⟩
  · refine ⟨some ⟨g, 0, none⟩, cap, rfl, hn, hm, .inr ⟨g, 0, rfl, (Array.getElem?_eq_some_iff.1 hg).1, fun i hi => ?_⟩⟩
    have k := hc g rfl i (.string (bs ls[i])) (by simp [cellsS, hi])
    rwa [add_none] at k

theorem lgPath_snoc : ∀ (a : List (List UInt8)) (x : List UInt8), a ≠ [] → lgPath (a ++ [x]) = lgPath a ++ [58, 58] ++ x
  | [], _, h => absurd rfl h
  | [t], x, _ => by simp [lgPath]
  | t :: u :: a, x, _ => by
    have := lgPath_snoc (u :: a) x (by simp)
    simp only [List.cons_append] at this
    simp only [List.cons_append, lgPath, this]
    simp
theorem lgPath_len {ws : List (List UInt8)} (h : ∀ w ∈ ws, w.length ≤ 1000000) : (lgPath ws).length ≤ 1000002 * ws.length := by
  match ws, h with
  | [], _ => simp [lgPath]
  | [t], h => have := h t (by simp); simp [lgPath]; omega
  | t :: u :: a, h =>
    have h1 := h t (by simp)
    have h2 := lgPath_len (ws := u :: a) fun v hv => h v (by simp at hv ⊢; right; exact hv)
    simp only [lgPath, List.length_append, List.length_cons, List.length_nil] at h2 ⊢
    omega

/-- The symbol of names. -/
def lgSym (ws : List (List UInt8)) (h : List UInt8) : List UInt8 := 95 :: 90 :: 78 :: (lgBody ws ++ (49 :: 55 :: 104 :: (h ++ [69])))

def LgSymRel (w : World) (ws : List (List UInt8)) (m : Nat) (v u : Value) (wr : World) : Prop :=
  ∃ k : Nat, u = .int .i64 (k : Int) ∧ k + m = ws.length ∧ v = .string (bs (95 :: 90 :: 78 :: lgBody (ws.take k))) ∧ Below w.heap.size w wr

set_option maxHeartbeats 2000000 in
theorem lgSymbol_any {w : World} {v : Value} {ws : List (List UInt8)} {h : List UInt8} (hP : Pow w w.heap.size) (hS : StrsAt w v ws) (hw : ∀ w ∈ ws, w.length ≤ 1000000) (hn : ws.length ≤ 1000) (hh : h.length ≤ 1000) :
    Calls Tryd.prog 10 #[v, .string (bs h)] w fun e w' => e = .returned (.string (bs (lgSym ws h))) ∧ Below w.heap.size w w' := by
  obtain ⟨A, c, rfl, hnc, hcm, hS⟩ := hS
  have HS := Lib.hid hS
  have HW := Lib.hid hw
  have HP := Lib.hid hP
  have hbl := lgBody_len hw
  clear hS hw hP
  have a1 : ∀ W, (Op.stringOp .add (bs (95 :: 90 :: 78 :: lgBody ws)) ⟨#[49, 55, 104]⟩).run Tryd.prog W = .ok (.string (bs (95 :: 90 :: 78 :: (lgBody ws ++ [49, 55, 104])))) W := fun W => add_bs _ [49, 55, 104] (by simp; omega) W
  have a2 : ∀ W, (Op.stringOp .add (bs (95 :: 90 :: 78 :: (lgBody ws ++ [49, 55, 104]))) (bs h)).run Tryd.prog W = .ok (.string (bs (95 :: 90 :: 78 :: (lgBody ws ++ ([49, 55, 104] ++ h))))) W := fun W => by
    rw [add_bs _ _ (by simp; omega) W]; simp
  have a3 : ∀ W, (Op.stringOp .add (bs (95 :: 90 :: 78 :: (lgBody ws ++ ([49, 55, 104] ++ h)))) ⟨#[69]⟩).run Tryd.prog W = .ok (.string (bs (lgSym ws h))) W := fun W => by
    rw [show (⟨#[69]⟩ : ByteArray) = bs [69] from rfl, add_bs _ _ (by simp; omega) W]; simp [lgSym]
  have A1 := Lib.hid a1
  have A2 := Lib.hid a2
  have A3 := Lib.hid a3
  clear a1 a2 a3
  go_enter Tryd.func10, Tryd.ntmps10
  go_wp2_with fail
  go_loopg [5, 10] ws.length (fun m v u wr => LgSymRel w ws m v u wr)
  case atStart => exact ⟨0, rfl, by omega, rfl, Below.refl _ _⟩
  case round =>
    obtain ⟨k, rfl, hm, rfl, hb⟩ := hrel
    by_cases hk : k < ws.length
    · rcases HS.out with h0 | ⟨b, off, rfl, hlt, hc⟩
      · rw [h0] at hk; cases hk
      have ck := (hb.cell (p := ⟨b, off + k, none⟩) hlt).trans (hc k hk)
      clear hc
      have hwl := HW.out ws[k] (List.getElem_mem _)
      have hd := decDigits_len 18 ws[k].length (by omega)
      have hbl2 := lgBody_len (ws := ws.take k) (fun v hv => HW.out v (List.mem_of_mem_take hv))
      rw [List.length_take] at hbl2
      have hnx := lgBody_next ws k hk
      have HI := Lib.hid (itoa_any (HP.out.keep hb (Nat.le_refl _)) ws[k].length (by omega))
      obtain ⟨x, hx⟩ : ∃ x, ws[k] = x := ⟨_, rfl⟩
      rw [hx] at ck hwl hd hnx HI
      clear hx
      obtain ⟨D, hD⟩ : ∃ D, decDigits x.length ++ x = D := ⟨_, rfl⟩
      have a1 : ∀ W, (Op.stringOp .add (bs (decDigits x.length)) (bs x)).run Tryd.prog W = .ok (.string (bs D)) W := fun W => by rw [← hD]; exact add_bs _ _ (by omega) W
      have hDl : D.length ≤ 1000020 := by rw [← hD]; simp; omega
      have a2 : ∀ W, (Op.stringOp .add (bs (95 :: 90 :: 78 :: lgBody (ws.take k))) (bs D)).run Tryd.prog W = .ok (.string (bs (95 :: 90 :: 78 :: lgBody (ws.take (k + 1))))) W := fun W => by
        rw [add_bs _ _ (by simp; omega) W, hnx, hD]; simp
      clear hnx hD hDl hbl2 hd
      go_wp2_with (go_at_call 24; refine (HI.out).mono ?_; rintro e w2 ⟨rfl, hb2⟩; replace hb2 := hb.trans (hb2.mono hb.size))
      go_roundg (ws.length - (k + 1))
      case measure => omega
      case rel => exact ⟨k + 1, by go_num, by omega, rfl, hb2⟩
    · obtain rfl : k = ws.length := by omega
      have a1 := A1.out
      have a2 := A2.out
      have a3 := A3.out
      rw [List.take_length]
      go_wp2_with fail
      go_ret
      refine ⟨?_, hb⟩
      show Ending.returned (.string (bs (95 :: 90 :: 78 :: (lgBody ws ++ 49 :: 55 :: 104 :: h)) ++ bs [69])) = _
      rw [bs_append]
      simp [lgSym]

def LgPathRel (w : World) (ws : List (List UInt8)) (m : Nat) (v u : Value) (wr : World) : Prop :=
  ∃ k : Nat, u = .int .i64 (k : Int) ∧ k + m = ws.length ∧ v = .string (bs (lgPath (ws.take k))) ∧ wr = w
theorem lgPath_one {ws : List (List UInt8)} (h : 0 < ws.length) : lgPath (ws.take 1) = ws[0] := by
  match ws, h with
  | t :: ts, _ => rfl
theorem lgPath_next {ws : List (List UInt8)} {k : Nat} (h : k < ws.length) (h0 : 0 < k) : lgPath (ws.take (k + 1)) = lgPath (ws.take k) ++ [58, 58] ++ ws[k] := by
  rw [List.take_succ_eq_append_getElem h, lgPath_snoc _ _ (by
    intro e
    have := congrArg List.length e
    rw [List.length_take, List.length_nil] at this
    omega)]


/-- The words of names. -/
def lgCut (l : List UInt8) : List UInt8 := l.take (min l.length 1000)
theorem lgCut_le (l : List UInt8) : (lgCut l).length ≤ 1000 := by unfold lgCut; rw [List.length_take]; omega
def wordsK (names : List (List UInt8)) (k : Nat) : List (List UInt8) := (List.range (min k 100)).map fun i => wordOf (lgCut (names.getD i []))
def lgWordsOf (names : List (List UInt8)) : List (List UInt8) := if names = [] then [[102]] else wordsK names names.length
theorem wordsK_len (names : List (List UInt8)) (k : Nat) : (wordsK names k).length = min k 100 := by unfold wordsK; simp
theorem wordsK_more {names : List (List UInt8)} {k : Nat} (h : k < 100) : wordsK names (k + 1) = wordsK names k ++ [wordOf (lgCut (names.getD k []))] := by
  unfold wordsK
  rw [show min (k + 1) 100 = k + 1 by omega, show min k 100 = k by omega, List.range_succ, List.map_append]
  rfl
theorem wordsK_same {names : List (List UInt8)} {k : Nat} (h : ¬ k < 100) : wordsK names (k + 1) = wordsK names k := by
  unfold wordsK
  rw [show min (k + 1) 100 = 100 by omega, show min k 100 = 100 by omega]
def LgWordsRel (w : World) (names : List (List UInt8)) (m : Nat) (v u : Value) (wr : World) : Prop :=
  ∃ k : Nat, u = .int .i64 (k : Int) ∧ k + m = names.length ∧ OwnsS wr w.heap.size v (wordsK names k) ∧ Below w.heap.size w wr
theorem lgInfoStr : (Tryd.prog.info? 9).map (fun i => (i.zero, i.size, i.bytes)) = some (some (.string ByteArray.empty), 1, 16) := by kernel_rfl

end Go.Proofs.YtokjbdofpdncdaaDoor
