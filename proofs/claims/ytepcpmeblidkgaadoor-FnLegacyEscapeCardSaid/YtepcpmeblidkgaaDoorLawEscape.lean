/- FnLegacyEscape: the walk. -/
import Derived.Test.YtepcpmeblidkgaaDoorLawTwo
import Derived.Test.YtepcpmeblidkgaaDoorSpecB62
namespace Go.Proofs.YtepcpmeblidkgaaDoor
open Go.RowKit Go.Lib
set_option linter.unusedVariables false
set_option maxRecDepth 100000
attribute [local go_sem] bs_size bs_toList

/-- The escapes, as they are written and as they are told. -/
def escTab : List (List UInt8 × List UInt8) :=
  [([36, 83, 80, 36], [64]), ([36, 66, 80, 36], [42]), ([36, 82, 70, 36], [38]), ([36, 76, 84, 36], [60]), ([36, 71, 84, 36], [62]), ([36, 76, 80, 36], [40]), ([36, 82, 80, 36], [41]), ([36, 67, 36], [44]),
   ([36, 117, 50, 48, 36], [32]), ([36, 117, 50, 50, 36], [34]), ([36, 117, 50, 55, 36], [39]), ([36, 117, 50, 98, 36], [43]), ([36, 117, 51, 98, 36], [59]), ([36, 117, 53, 98, 36], [91]), ([36, 117, 53, 100, 36], [93]),
   ([36, 117, 55, 98, 36], [123]), ([36, 117, 55, 100, 36], [125]), ([36, 117, 55, 101, 36], [126]), ([46, 46], [58, 58])]
def escW (k : Nat) : List UInt8 := (escTab.getD k ([], [])).1
def escT (k : Nat) : List UInt8 := (escTab.getD k ([], [])).2
theorem esc_esc {k : Nat} (h : k < 19) : EscTo (escW k) (escT k) := by
  have hk : k = 0 ∨ k = 1 ∨ k = 2 ∨ k = 3 ∨ k = 4 ∨ k = 5 ∨ k = 6 ∨ k = 7 ∨ k = 8 ∨ k = 9 ∨ k = 10 ∨ k = 11 ∨ k = 12 ∨ k = 13 ∨ k = 14 ∨ k = 15 ∨ k = 16 ∨ k = 17 ∨ k = 18 := by omega
  rcases hk with rfl | rfl | rfl | rfl | rfl | rfl | rfl | rfl | rfl | rfl | rfl | rfl | rfl | rfl | rfl | rfl | rfl | rfl | rfl
  · exact .code (by decide) .nil
  · exact .code (by decide) .nil
  · exact .code (by decide) .nil
  · exact .code (by decide) .nil
  · exact .code (by decide) .nil
  · exact .code (by decide) .nil
  · exact .code (by decide) .nil
  · exact .comma .nil
  · exact .hex (a := 2) (b := 0) (by decide) (by decide) (by decide) (by decide) .nil
  · exact .hex (a := 2) (b := 2) (by decide) (by decide) (by decide) (by decide) .nil
  · exact .hex (a := 2) (b := 7) (by decide) (by decide) (by decide) (by decide) .nil
  · exact .hex (a := 2) (b := 11) (by decide) (by decide) (by decide) (by decide) .nil
  · exact .hex (a := 3) (b := 11) (by decide) (by decide) (by decide) (by decide) .nil
  · exact .hex (a := 5) (b := 11) (by decide) (by decide) (by decide) (by decide) .nil
  · exact .hex (a := 5) (b := 13) (by decide) (by decide) (by decide) (by decide) .nil
  · exact .hex (a := 7) (b := 11) (by decide) (by decide) (by decide) (by decide) .nil
  · exact .hex (a := 7) (b := 13) (by decide) (by decide) (by decide) (by decide) .nil
  · exact .hex (a := 7) (b := 14) (by decide) (by decide) (by decide) (by decide) .nil
  · exact .dots .nil
theorem esc_len {k : Nat} (h : k < 19) : (escW k).length ≤ 5 ∧ (escT k).length ≤ 2 := by
  have : ∀ j, j < 19 → (escW j).length ≤ 5 ∧ (escT j).length ≤ 2 := by decide +kernel
  exact this k h
def escCells : Array Value := (escTab.flatMap fun p => [Value.string (bs p.1), Value.string (bs p.2)]).toArray
theorem escCells_at {k : Nat} (h : k < 19) : escCells[k * 2]? = some (.string (bs (escW k))) ∧ escCells[k * 2 + 1]? = some (.string (bs (escT k))) := by
  have hk : k = 0 ∨ k = 1 ∨ k = 2 ∨ k = 3 ∨ k = 4 ∨ k = 5 ∨ k = 6 ∨ k = 7 ∨ k = 8 ∨ k = 9 ∨ k = 10 ∨ k = 11 ∨ k = 12 ∨ k = 13 ∨ k = 14 ∨ k = 15 ∨ k = 16 ∨ k = 17 ∨ k = 18 := by omega
  rcases hk with rfl | rfl | rfl | rfl | rfl | rfl | rfl | rfl | rfl | rfl | rfl | rfl | rfl | rfl | rfl | rfl | rfl | rfl | rfl <;> exact ⟨rfl, rfl⟩
theorem lgEscapes_any (w : World) : Calls Tryd.prog 17 #[] w fun e w' => e = .returned (.slice (some ⟨w.heap.size, 0, none⟩) 19 19) ∧ w' = w.alloc (.cells escCells 26) := by
  go_enter Tryd.func17, Tryd.ntmps17
  go_wp2
  go_ret
  exact ⟨rfl, by kernel_rfl⟩
theorem name_esc {X1 X2 : List UInt8} {k : Nat} (h : k < 19) (h1 : ∃ c t, X1 = c :: t ∧ isDig c = false ∧ c ≠ 95) (b1 : ∀ c ∈ X1, c ≠ 36 ∧ c ≠ 46) (b2 : ∀ c ∈ X2, c ≠ 36 ∧ c ≠ 46) : NameTo (X1 ++ escW k ++ X2) (X1 ++ escT k ++ X2) := by
  have he := ((EscTo.word b1).append (esc_esc h)).append (EscTo.word b2)
  obtain ⟨c, t, rfl, hd, h95⟩ := h1
  exact .plain hd h95 he

set_option maxHeartbeats 4000000 in
theorem legacyEscape_walk (w : World) (hP : Pow w w.heap.size) (i : Int) (hi : (Lit.int .i64 i).wf = true) (A1 : Option Addr) (n1 c1 : Nat) (l1 : List UInt8) (h1 : Bytes w A1 n1 l1) (k1 : n1 ≤ maxLen ∧ n1 ≤ c1) (A2 : Option Addr) (n2 c2 : Nat) (l2 : List UInt8) (h2 : Bytes w A2 n2 l2) (k2 : n2 ≤ maxLen ∧ n2 ≤ c2)
    (A3 : Option Addr) (n3 c3 : Nat) (l3 : List UInt8) (h3 : Bytes w A3 n3 l3) (k3 : n3 ≤ maxLen ∧ n3 ≤ c3) :
    Calls Tryd.prog 3 #[.int .i64 i, .slice A1 n1 c1, .slice A2 n2 c2, .slice A3 n3 c3] w fun e w' => e = .returned (.bool true) ∧ Below w.heap.size w w' := by
  by_cases hz1 : 2147483647 < n1
  · have hz' : decide ((2147483647 : Int) < (n1 : Int)) = true := decide_eq_true (by omega)
    clear hz1
    go_enter Tryd.func3, Tryd.ntmps3
    go_wp2_with fail
    go_ret
    exact ⟨rfl, Below.refl _ _⟩
  have hz1' : decide ((2147483647 : Int) < (n1 : Int)) = false := decide_eq_false (by omega)
  by_cases hz2 : 2147483647 < n2
  · have hz' : decide ((2147483647 : Int) < (n2 : Int)) = true := decide_eq_true (by omega)
    clear hz1 hz2
    go_enter Tryd.func3, Tryd.ntmps3
    go_wp2_with fail
    go_ret
    exact ⟨rfl, Below.refl _ _⟩
  have hz2' : decide ((2147483647 : Int) < (n2 : Int)) = false := decide_eq_false (by omega)
  by_cases hz3 : 2147483647 < n3
  · have hz' : decide ((2147483647 : Int) < (n3 : Int)) = true := decide_eq_true (by omega)
    clear hz1 hz2 hz3
    go_enter Tryd.func3, Tryd.ntmps3
    go_wp2_with fail
    go_ret
    exact ⟨rfl, Below.refl _ _⟩
  have hz3' : decide ((2147483647 : Int) < (n3 : Int)) = false := decide_eq_false (by omega)
  have hT1 := h1.take (min n1 1000) (by omega)
  have hT2 := h2.take (min n2 1000) (by omega)
  have e1 := word_bytes (l1.take (min n1 1000))
  have e2 := word_bytes (l2.take (min n2 1000))
  have e3 := word_head (l1.take (min n1 1000))
  have f1 := word_len (l1.take (min n1 1000)) (by simp; omega)
  have f2 := word_len (l2.take (min n2 1000)) (by simp; omega)
  have HC1 := Lib.hid (fun W : World => idCut_any (w := W) (A := A1) k1.2)
  have HC2 := Lib.hid (fun W : World => idCut_any (w := W) (A := A2) k2.2)
  have HP1 := Lib.hid (fun (W : World) (hW : Below w.heap.size w W) => anWord_any (cap := c1) (hT1.below hW) (by omega))
  have HP2 := Lib.hid (fun (W : World) (hW : Below w.heap.size w W) => anWord_any (cap := c2) (hT2.below hW) (by omega))
  have HH := Lib.hid (fun (W : World) (hW : Below w.heap.size w W) => (lgHash_any (cn := c3) (h3.below hW) k3.1).mono fun e w' h => (show e = .returned (.tuple #[.string (bs (hashK l3 16)), .bool (decide (8 ≤ pop16 (maskH (hashK l3 16))))]) ∧ Below w.heap.size w w' ∧ Below W.heap.size W w' from ⟨h.1, hW.trans (h.2.mono hW.size), h.2⟩))
  have hok := fun (h : 8 ≤ pop16 (maskH (hashK l3 16))) => hashK_ok (l := l3) (Nat.le_trans (by decide) h)
  generalize wordOf (l1.take (min n1 1000)) = X1 at *
  generalize wordOf (l2.take (min n2 1000)) = X2 at *
  generalize hashK l3 16 = M at *
  obtain ⟨k, hk⟩ : ∃ k : Nat, i % 19 = (k : Int) := ⟨(i % 19).toNat, by omega⟩
  have hk2 : k < 19 := by omega
  have HI := Lib.hid (fun W => idAt_any hi (n := 19) (by decide) (by unfold big62; decide) W)
  rw [hk] at HI
  have hel := esc_len hk2
  have hname := name_esc hk2 e3 e1 e2
  have hcells := escCells_at hk2
  generalize escW k = EW at *
  generalize escT k = ET at *
  have HT := Lib.hid (fun (h8 : 8 ≤ pop16 (maskH M)) (W : World) (hW : Below w.heap.size w W) => (lgTold_yes (w := W.alloc (.cells #[.string (bs (X1 ++ EW ++ X2))] 9)) (ts := [X1 ++ ET ++ X2]) ((hP.keep (hW.alloc hW.size _) (Nat.le_refl _)).up (hW.alloc hW.size _).size (Nat.le_refl _)) (strs_one W _) (.cons hname (by simp; omega) .nil) (hok h8) (by simp)).mono fun e w' h => (show e = .returned (.bool true) ∧ Below w.heap.size w w' from ⟨h.1, (hW.alloc hW.size _).trans (h.2.mono (hW.alloc hW.size _).size)⟩))
  have HE := Lib.hid (fun W : World => lgEscapes_any W)
  obtain ⟨Y1, hY1⟩ : ∃ X, X1 ++ EW = X := ⟨_, rfl⟩
  obtain ⟨Y2, hY2⟩ : ∃ X, Y1 ++ X2 = X := ⟨_, rfl⟩
  obtain ⟨Z1, hZ1⟩ : ∃ X, X1 ++ ET = X := ⟨_, rfl⟩
  obtain ⟨Z2, hZ2⟩ : ∃ X, Z1 ++ X2 = X := ⟨_, rfl⟩
  have b1 : Y1.length ≤ 1005 := by rw [← hY1]; simp; omega
  have b2 : Z1.length ≤ 1002 := by rw [← hZ1]; simp; omega
  have a1 : ∀ W, (Op.stringOp .add (bs X1) (bs EW)).run Tryd.prog W = .ok (.string (bs Y1)) W := by rw [← hY1]; exact add_bs X1 _ (by omega)
  have a2 : ∀ W, (Op.stringOp .add (bs Y1) (bs X2)).run Tryd.prog W = .ok (.string (bs Y2)) W := by rw [← hY2]; exact add_bs Y1 X2 (by omega)
  have a3 : ∀ W, (Op.stringOp .add (bs X1) (bs ET)).run Tryd.prog W = .ok (.string (bs Z1)) W := by rw [← hZ1]; exact add_bs X1 _ (by omega)
  have a4 : ∀ W, (Op.stringOp .add (bs Z1) (bs X2)).run Tryd.prog W = .ok (.string (bs Z2)) W := by rw [← hZ2]; exact add_bs Z1 X2 (by omega)
  have e4 : lgPath [Z2] = Z2 := rfl
  rw [hY1, hY2, hZ1, hZ2, e4] at HT
  have hcA : ∀ (W : World) (o : Obj), ((W.alloc (.cells escCells 26)).alloc o).cell? ⟨W.heap.size, k * 2, none⟩ = some (.string (bs EW)) := fun W o => (((Blk.new W 26 escCells).alloc o).cell _).trans hcells.1
  have hcB : ∀ (W : World) (o : Obj), ((W.alloc (.cells escCells 26)).alloc o).cell? ⟨W.heap.size, k * 2 + 1, none⟩ = some (.string (bs ET)) := fun W o => (((Blk.new W 26 escCells).alloc o).cell _).trans hcells.2
  have HCell := Lib.hid (fun W : World => (show (W.alloc (.cells escCells 26)).cell? ⟨W.heap.size, k * 2, none⟩ = some (.string (bs EW)) ∧ (W.alloc (.cells escCells 26)).cell? ⟨W.heap.size, k * 2 + 1, none⟩ = some (.string (bs ET)) from ⟨((Blk.new W 26 escCells).cell _).trans hcells.1, ((Blk.new W 26 escCells).cell _).trans hcells.2⟩))
  clear hY1 hY2 hZ1 hZ2 b1 b2 e4 hT1 hT2 e1 e2 e3 f1 f2 h1 h2 h3 k1 k2 k3 hz1 hz2 hz3 hP hok hname hcells hel hk
  generalize pop16 (maskH M) = p at *
  by_cases h8 : 8 ≤ p
  · replace HT := Lib.hid (HT.out h8)
    rw [decide_eq_true h8] at HH
    clear h8
    go_enter Tryd.func3, Tryd.ntmps3
    go_wp2_with (first
      | (go_at_call 16; with_reducible refine (HC2.out _).mono ?_; rintro e w4 ⟨rfl, rfl⟩)
      | (go_at_call 16; with_reducible refine (HC1.out _).mono ?_; rintro e w2 ⟨rfl, rfl⟩)
      | (go_at_call 15; with_reducible refine (HP2.out _ hb3).mono ?_; rintro e w5 ⟨rfl, hb5⟩; replace hb5 := hb3.trans (hb5.mono hb3.size))
      | (go_at_call 15; with_reducible refine (HP1.out _ (Below.refl _ _)).mono ?_; rintro e w3 ⟨rfl, hb3⟩)
      | (go_at_call 18; refine (HI.out _).mono ?_; rintro e w7 ⟨rfl, rfl⟩)
      | (go_at_call 17; refine (HE.out _).mono ?_; rintro e w6 ⟨rfl, rfl⟩)
      | (go_at_call 19; refine (HH.out _ (by repeat (first | exact hb5 | refine Below.alloc ?_ (by first | exact hb5.size | (simp; have := hb5.size; omega)) _))).mono ?_; rintro e w8 ⟨rfl, hb8, hb9⟩; have hc0 : w8.cell? ⟨w5.heap.size + 1 + 1, 0, none⟩ = some (.string (bs EW)) := (hb9.cell (p := ⟨w5.heap.size + 1 + 1, 0, none⟩) (by simp)).trans (by have := (Blk.new ((w5.alloc (.cells escCells 26)).alloc (.cells escCells 26)) 26 #[.string (bs EW), .string (bs ET)]).cell 0; simpa using this); have hc1 : w8.cell? ⟨w5.heap.size + 1 + 1, 1, none⟩ = some (.string (bs ET)) := (hb9.cell (p := ⟨w5.heap.size + 1 + 1, 1, none⟩) (by simp)).trans (by have := (Blk.new ((w5.alloc (.cells escCells 26)).alloc (.cells escCells 26)) 26 #[.string (bs EW), .string (bs ET)]).cell 1; simpa using this); have hc2 : ∀ o, (w8.alloc o).cell? ⟨w5.heap.size + 1 + 1, 1, none⟩ = some (.string (bs ET)) := fun o => (((Below.refl w8.heap.size w8).alloc (Nat.le_refl _) o).cell (p := ⟨w5.heap.size + 1 + 1, 1, none⟩) (World.block_lt_of_cell? w8 _ hc1)).trans hc1)
      | (go_at_call 20; refine (HT.out _ hb8).mono ?_; rintro e w9 ⟨rfl, hb10⟩))
    go_ret
    exact ⟨rfl, hb10⟩
  · rw [decide_eq_false h8] at HH
    clear h8 HT
    go_enter Tryd.func3, Tryd.ntmps3
    go_wp2_with (first
      | (go_at_call 16; with_reducible refine (HC2.out _).mono ?_; rintro e w4 ⟨rfl, rfl⟩)
      | (go_at_call 16; with_reducible refine (HC1.out _).mono ?_; rintro e w2 ⟨rfl, rfl⟩)
      | (go_at_call 15; with_reducible refine (HP2.out _ hb3).mono ?_; rintro e w5 ⟨rfl, hb5⟩; replace hb5 := hb3.trans (hb5.mono hb3.size))
      | (go_at_call 15; with_reducible refine (HP1.out _ (Below.refl _ _)).mono ?_; rintro e w3 ⟨rfl, hb3⟩)
      | (go_at_call 18; refine (HI.out _).mono ?_; rintro e w7 ⟨rfl, rfl⟩)
      | (go_at_call 17; refine (HE.out _).mono ?_; rintro e w6 ⟨rfl, rfl⟩)
      | (go_at_call 19; refine (HH.out _ (by repeat (first | exact hb5 | refine Below.alloc ?_ (by first | exact hb5.size | (simp; have := hb5.size; omega)) _))).mono ?_; rintro e w8 ⟨rfl, hb8, hb9⟩))
    go_ret
    exact ⟨rfl, hb8⟩
end Go.Proofs.YtepcpmeblidkgaaDoor
