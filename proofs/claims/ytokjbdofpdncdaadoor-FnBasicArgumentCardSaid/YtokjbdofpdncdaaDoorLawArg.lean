/- FnBasicArgument: the walk. -/
import Derived.Test.YtokjbdofpdncdaaDoorArgPath
import Derived.Test.YtokjbdofpdncdaaDoorTold
import Derived.Test.YtokjbdofpdncdaaDoorLawBasic
import Derived.LaidLaws
namespace Go.Proofs.YtokjbdofpdncdaaDoor
open Go.RowKit Go.Lib
set_option linter.unusedVariables false
set_option maxRecDepth 100000

section
attribute [local go_sem] bs_size bs_get0
theorem sym_arg {w : World} {b : Nat} {O : ByteArray} {c : UInt8} (h : RstO w b (pln O [73, 67, 49, 109, c, 69] [])) (hB : Basics w b) (ht : basicText c ≠ []) :
    Calls Tryd.prog 106 #[.pointer (some ⟨b, 0, none⟩)] w (Done b w (.tuple #[]) (pln O [] ([109, 58, 58, 60] ++ basicText c ++ [62]))) := by
  have c1 : w.cell? ⟨b, 1, none⟩ = some (.string (bs [73, 67, 49, 109, c, 69])) := h.str
  have hp0 : 0 < (bs [73, 67, 49, 109, c, 69]).size := by rw [bs_size]; simp
  have hg : (bs [73, 67, 49, 109, c, 69])[0]'hp0 = 73 := bs_get0 73 _ hp0
  have HP := Lib.hid (path_args h hB ht)
  have HD := Lib.hid (isDigit_no (c := 73) (by rfl))
  obtain ⟨s1, hs1⟩ : ∃ s, pln O [] ([109, 58, 58, 60] ++ basicText c ++ [62]) = s := ⟨_, rfl⟩
  have h1 : s1.str = [] := by rw [← hs1]; rfl
  rw [hs1] at HP ⊢
  have HC := Lib.hid (fun (W : World) (hW : RstO W b s1) => (show W.cell? ⟨b, 1, none⟩ = some (.string (bs [])) from by rw [hW.str, h1]))
  clear h hB ht hs1 h1
  go_enter Tryd.func106, Tryd.ntmps106
  go_wp2_with (first | (go_at_call 61; refine (HD.out _).mono ?_; rintro e w1 ⟨rfl, rfl⟩) | (go_at_call 122; refine (HP.out).mono ?_; rintro e w1 ⟨rfl, h2, hb1⟩; have c2 := HC.out _ h2))
  go_end0
  exact ⟨rfl, h2, hb1⟩
end

section
attribute [local go_sem] errOf
variable {w : World} {c : UInt8}
def argName (c : UInt8) : List UInt8 := [95, 82, 73, 67, 49, 109, c, 69]
def argText (c : UInt8) : List UInt8 := [109, 58, 58, 60] ++ basicText c ++ [62]
theorem argRust (hB : Basics w w.heap.size) (ht : basicText c ≠ []) :
    Calls Tryd.prog 54 #[.string (bs (argName c)), .slice none 0 0] w fun e w' => e = .returned (.tuple #[.string (bs (argText c)), .nilIface]) ∧ Below w.heap.size w w' := by
  have hl := basicText_low c ht
  have hb := rtsWorld_below w [73, 67, 49, 109, c, 69]
  have hsz := rtsWorld_size w [73, 67, 49, 109, c, 69]
  have hs := sym_arg (O := bs [73, 67, 49, 109, c, 69]) (rtsWorld_rst w [73, 67, 49, 109, c, 69]) ((hB.keep hb (Nat.le_refl _)).up (by omega) (by omega)) ht
  have hdot : DotAt (argName c) (argName c).length := dotAt_none (by
    intro x hx
    simp only [argName, List.mem_cons, List.mem_nil_iff, or_false] at hx
    rcases hx with rfl | rfl | rfl | rfl | rfl | rfl | rfl | rfl
    all_goals first | decide | (intro e; rw [e] at hl; exact absurd hl (by decide)))
  have H := Lib.hid (rts_ok (F := argName c) ⟨by rfl, by show 2 ≤ 8; omega⟩ hdot (by show 8 ≤ _; omega) (by rfl) (by rfl) hs)
  clear hb hs hdot hB ht hl hsz
  obtain ⟨F, hF⟩ : ∃ F, argName c = F := ⟨_, rfl⟩
  rw [hF] at H ⊢
  obtain ⟨T, hT⟩ : ∃ T, argText c = T := ⟨_, rfl⟩
  rw [show (pln (bs [73, 67, 49, 109, c, 69]) [] ([109, 58, 58, 60] ++ basicText c ++ [62])).out = T from hT] at H
  rw [hT]
  go_enter Tryd.func54, Tryd.ntmps54
  go_wp2_with (go_at_call 83; refine (H.out).mono ?_; rintro e w2 ⟨rfl, hb2⟩)
  go_ret2
  exact ⟨rfl, hb2⟩
theorem argTold (hB : Basics w w.heap.size) (ht : basicText c ≠ []) :
    Calls Tryd.prog 30 #[.string (bs (argName c)), .agg #[.bool false, .bool false, .bool false, .bool false, .bool false, .bool false, .bool false, .int .i64 0]] w fun e w' => e = .returned (.tuple #[.string (bs (argText c)), .int .i64 0]) ∧ Below w.heap.size w w' := by
  have HR := Lib.hid (fun (W : World) (hb : Below w.heap.size w W) => argRust (w := W) ((hB.keep hb (Nat.le_refl _)).up hb.size (Nat.le_refl _)) ht)
  have HB := Lib.hid (fun o => (show Below w.heap.size w (w.alloc o) from (Below.refl _ _).alloc (Nat.le_refl _) o))
  clear ht hB
  generalize argName c = F at *
  generalize argText c = T at *
  go_enter Tryd.func30, Tryd.ntmps30
  go_wp2_with (first
    | (go_at_call 23; refine (list_zero _).mono ?_; rintro e w1 ⟨rfl, hb1⟩; have hb := (HB.out _).trans (hb1.mono (HB.out _).size))
    | (go_at_call 54; refine (HR.out _ hb).mono ?_; rintro e w2 ⟨rfl, hb2⟩))
  go_ret2
  exact ⟨rfl, hb.trans (hb2.mono hb.size)⟩
end

section
attribute [local go_sem] bs_size bs_toList
variable {w : World} {c : UInt8}
theorem rustOf_one (W : World) : Calls Tryd.prog 31 #[.string (bs [c])] W fun e w' => e = .returned (.string (bs (argName c))) ∧ W = w' := by
  have h1 : ∀ W, (Op.stringOp .add ⟨#[95, 82, 73, 67, 49, 109]⟩ (bs [c])).run Tryd.prog W = .ok (.string (bs [95, 82, 73, 67, 49, 109, c])) W := add_bs [95, 82, 73, 67, 49, 109] [c] (by simp)
  have h2 : ∀ W, (Op.stringOp .add (bs [95, 82, 73, 67, 49, 109, c]) ⟨#[69]⟩).run Tryd.prog W = .ok (.string (bs (argName c))) W := add_bs [95, 82, 73, 67, 49, 109, c] [69] (by simp)
  go_enter Tryd.func31, Tryd.ntmps31
  go_wp2_with fail
  go_ret
  exact ⟨rfl, rfl⟩
theorem argIs (hB : Basics w w.heap.size) (ht : basicText c ≠ []) :
    Calls Tryd.prog 18 #[.string (bs [c]), .string (bs (basicText c))] w fun e w' => e = .returned (.bool true) ∧ Below w.heap.size w w' := by
  have HR := Lib.hid (fun W : World => rustOf_one (c := c) W)
  have HT := Lib.hid (argTold hB ht)
  have hl := basicText_short c
  have h1 : ∀ W, (Op.stringOp .add ⟨#[109, 58, 58, 60]⟩ (bs (basicText c))).run Tryd.prog W = .ok (.string (bs ([109, 58, 58, 60] ++ basicText c))) W := add_bs [109, 58, 58, 60] (basicText c) (by simp; omega)
  have h2 : ∀ W, (Op.stringOp .add (bs ([109, 58, 58, 60] ++ basicText c)) ⟨#[62]⟩).run Tryd.prog W = .ok (.string (bs (argText c))) W := add_bs ([109, 58, 58, 60] ++ basicText c) [62] (by simp; omega)
  have e1 : (argText c == argText c) = true := by simp
  clear ht hB hl
  generalize [109, 58, 58, 60] ++ basicText c = Y at *
  generalize argName c = F at *
  generalize argText c = T at *
  generalize basicText c = X at *
  go_enter Tryd.func18, Tryd.ntmps18
  go_wp2_with (first
    | (go_at_call 31; refine (HR.out _).mono ?_; rintro e w1 ⟨rfl, rfl⟩)
    | (go_at_call 30; refine (HT.out).mono ?_; rintro e w2 ⟨rfl, hb2⟩))
  go_ret
  exact ⟨rfl, hb2⟩

theorem one_byte (W : World) (c : UInt8) : (convert 23 9 (.slice (some ⟨W.heap.size, 0, none⟩) 1 1)).run Tryd.prog (W.alloc (.cells #[.int .u8 (c.toNat : Int)] 5)) = .ok (.string (bs [c])) (W.alloc (.cells #[.int .u8 (c.toNat : Int)] 5)) :=
  Bytes.convert (l := [c]) ⟨rfl, .inr ⟨_, 0, rfl, by simp, fun i hi => by
    have : i = 0 := by simp at hi; omega
    subst this
    exact (Blk.new W 5 #[.int .u8 (c.toNat : Int)]).cell 0⟩⟩ 1 Tryd.underlying23 Tryd.underlying5 Tryd.underlying9
theorem basicArg_walk (w : World) (hB : Basics w w.heap.size) (c : UInt8) :
    Calls Tryd.prog 5 #[.int .u8 (c.toNat : Int)] w fun e w' => e = .returned (.bool true) ∧ Below w.heap.size w w' := by
  have HT := Lib.hid (fun W : World => text_any W c)
  by_cases ht : basicText c = []
  · have e1 : (basicText c == []) = true := by simp [ht]
    go_enter Tryd.func5, Tryd.ntmps5
    go_wp2_with (go_at_call 16; refine (HT.out _).mono ?_; rintro e w2 ⟨rfl, rfl⟩)
    go_ret
    exact ⟨rfl, Below.refl _ _⟩
  · have HI := Lib.hid (fun (W : World) (hb : Below w.heap.size w W) => basic_impl (w := W) (s := bs [c]) (c := c) (l := []) ((hB.keep hb (Nat.le_refl _)).up hb.size (Nat.le_refl _)) (by rw [bs_data]) (by rw [bs_size]; simp) ht)
    have HA := Lib.hid (fun (W : World) (hb : Below w.heap.size w W) => argIs (w := W) (c := c) ((hB.keep hb (Nat.le_refl _)).up hb.size (Nat.le_refl _)) ht)
    have e1 : (basicText c == []) = false := by simp [ht]
    have e2 : (basicText c != []) = true := by simp [ht]
    have e3 : (basicText c).isEmpty = false := by simp [ht]
    have hcv := fun W => one_byte W c
    have HB := Lib.hid (fun (W : World) (hW : Below w.heap.size w W) o => (show Below w.heap.size w (W.alloc o) from hW.alloc hW.size o))
    clear hB ht
    generalize basicText c = X at *
    go_enter Tryd.func5, Tryd.ntmps5
    go_wp2_with (first
      | (go_at_call 16; refine (HT.out _).mono ?_; rintro e w2 ⟨rfl, rfl⟩)
      | (go_at_call 17; refine (HI.out _ (HB.out _ (Below.refl _ _) _)).mono ?_; rintro e w3 ⟨rfl, hb3⟩; have hbw3 := (HB.out _ (Below.refl _ _) _).trans (hb3.mono (by simp)))
      | (go_at_call 18; refine (HA.out _ (HB.out _ hbw3 _)).mono ?_; rintro e w4 ⟨rfl, hb4⟩; have hbw4 := (HB.out _ hbw3 _).trans (hb4.mono (HB.out _ hbw3 _).size)))
    go_ret
    exact ⟨rfl, hbw4⟩
end
theorem laid_get {P : Program} {w : World} {nm : String} {d : DataW Unit} : ∀ (l : List (String × DataW Unit)) (ps : List MemPlace), DataW.LaidVars P w l ps → (nm, d) ∈ l →
    ∃ g t cs fuel p, P.globalNamed nm = some g ∧ (P.globals[g]?).map (·.type) = some t ∧ w.var? P nm = some cs ∧ DataW.trod (fun _ => ()) P w 0 (fun _ => true) false fuel t cs.toList = some (d, p) ∧ ∀ x ∈ MemPlace.row ⟨g, 0, none⟩ cs.size, x ∈ ps := by
  intro l
  induction l with
  | nil => intro ps _ hm; cases hm
  | cons a l ih =>
    obtain ⟨n2, d2⟩ := a
    intro ps h hm
    obtain ⟨g, t, cs, fuel, p, q, hg, ht, hvar, hd, hrest, hps⟩ := h
    rcases List.mem_cons.1 hm with hm | hm
    · simp only [Prod.mk.injEq] at hm
      obtain ⟨rfl, rfl⟩ := hm
      exact ⟨g, t, cs, fuel, p, hg, ht, hvar, hd, fun x hx => by rw [hps]; simp [hx]⟩
    · obtain ⟨g', t', cs', fuel', p', h1, h2, h3, h4, h5⟩ := ih _ hrest hm
      exact ⟨g', t', cs', fuel', p', h1, h2, h3, h4, fun x hx => by rw [hps]; simp [h5 x hx]⟩

theorem basics_laid5 {w : World} (h : laidMetH Tryd.prog Rows.fnBasicArgumentRow.laid w) : Basics w w.heap.size := by
  rw [MakeChecks.laidMetH_plain _ _ _ (by kernel_rfl)] at h
  obtain ⟨ps, hl, _, _⟩ := h
  obtain ⟨g, t, cs, fuel, p, hg, ht, hvar, hd, _⟩ := laid_get (nm := basicName) (d := basicD) _ ps hl (by
    show (basicName, basicD) ∈ Rows.fnBasicArgumentRow.laid
    exact .tail _ (.tail _ (.tail _ (.tail _ (.head _)))))
  obtain rfl := Option.some.inj (gBasic.symm.trans hg)
  obtain rfl := Option.some.inj (tBasic.symm.trans ht)
  exact basics_var hvar hd
end Go.Proofs.YtokjbdofpdncdaaDoor
