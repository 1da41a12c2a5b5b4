/- One basic type as the argument of a crate's path: the walk. -/
import Derived.Test.YtokjbdofpdncdaaDoorPath
import Derived.Test.YtokjbdofpdncdaaDoorBasicWalk
namespace Go.Proofs.YtokjbdofpdncdaaDoor
open Go.RowKit Go.Lib
set_option linter.unusedVariables false
set_option maxRecDepth 100000
attribute [local go_sem] bs_size bs_get0

theorem basicText_low (c : UInt8) (h : basicText c ≠ []) : 97 ≤ c.toNat ∧ c.toNat ≤ 122 := by
  have := forall_u8 (p := fun c => basicText c == [] || decide (97 ≤ c.toNat ∧ c.toNat ≤ 122)) (by kernel_rfl) c
  simp at this
  exact this.resolve_left h

section
variable {w : World} {b : Nat} {st : St} {c : UInt8} {l : List UInt8}
theorem basic_o (h : RstO w b st) (hB : Basics w b) (hc : st.str = c :: l) (hm : st.max = 0) (hl : st.str.length ≤ 1000000000000) (ho : st.out.length ≤ 1000000000000) (ht : basicText c ≠ []) :
    Calls Tryd.prog 53 #[.pointer (some ⟨b, 0, none⟩)] w (Done b w (.tuple #[]) ((st.on l).putm (basicText c))) := by
  obtain ⟨o, h⟩ := h
  refine (basicType_yes h hB hc hm (by show st.str.length ≤ _; omega) (by show st.out.length + 8 ≤ _; omega) ht).mono ?_
  rintro e w' ⟨rfl, ⟨o2, h2⟩, hb⟩
  refine ⟨rfl, ⟨o2, ?_⟩, hb⟩
  rw [putm_zero (st := st.on l) hm]
  have e : { ({ { st with off := o } with str := l }.put (basicText c)) with off := o2 } = { ((st.on l).put (basicText c)) with off := o2 } := by unfold St.put St.on; dsimp only; split <;> rfl
  exact e ▸ h2
theorem check_o (h : RstO w b st) (hc : st.str = c :: l) (hl : st.str.length ≤ 9223372036854775807) :
    Calls Tryd.prog 114 #[.pointer (some ⟨b, 0, none⟩), .int .u8 (c.toNat : Int)] w (Done b w (.tuple #[]) (st.on l)) := by
  obtain ⟨o, h⟩ := h
  have := checkChar_yes h hc hl
  exact this

theorem type_low (h : RstO w b st) (hB : Basics w b) (hc : st.str = c :: l) (hm : st.max = 0) (hl : st.str.length ≤ 1000000000000) (ho : st.out.length ≤ 1000000000000) (ht : basicText c ≠ []) :
    Calls Tryd.prog 133 #[.pointer (some ⟨b, 0, none⟩)] w (Done b w (.tuple #[]) ((st.on l).putm (basicText c))) := by
  have c1 := h.str
  rw [hc] at c1
  obtain ⟨t1, t2⟩ := basicText_low c ht
  have e1 : (97 : Int) ≤ (c.toNat : Int) := by omega
  have e2 : (c.toNat : Int) ≤ 122 := by omega
  have hp0 : 0 < (bs (c :: l)).size := by rw [bs_size]; simp
  have hlen : ¬ ((l.length : Int) + 1 < 1) := by omega
  have HA := Lib.hid (basic_o h hB hc hm hl ho ht)
  clear h hB hc hl ho ht t1 t2
  go_enter Tryd.func133, Tryd.ntmps133
  go_wp2_with (go_at_call 53; refine (HA.out).mono ?_; rintro e w1 ⟨rfl, h1, hb1⟩)
  go_end0
  exact ⟨rfl, h1, hb1⟩
theorem arg_low (h : RstO w b st) (hB : Basics w b) (hc : st.str = c :: l) (hm : st.max = 0) (hl : st.str.length ≤ 1000000000000) (ho : st.out.length ≤ 1000000000000) (ht : basicText c ≠ []) :
    Calls Tryd.prog 146 #[.pointer (some ⟨b, 0, none⟩)] w (Done b w (.tuple #[]) ((st.on l).putm (basicText c))) := by
  have c1 := h.str
  rw [hc] at c1
  obtain ⟨t1, t2⟩ := basicText_low c ht
  have e1 : ((c.toNat : Int) == 76) = false := by simp; omega
  have e2 : ((c.toNat : Int) == 75) = false := by simp; omega
  have hp0 : 0 < (bs (c :: l)).size := by rw [bs_size]; simp
  have hlen : ¬ ((l.length : Int) + 1 < 1) := by omega
  have HA := Lib.hid (type_low h hB hc hm hl ho ht)
  clear h hB hc hl ho ht t1 t2
  go_enter Tryd.func146, Tryd.ntmps146
  go_wp2_with (go_at_call 133; refine (HA.out).mono ?_; rintro e w1 ⟨rfl, h1, hb1⟩)
  go_end0
  exact ⟨rfl, h1, hb1⟩

theorem args_one (h : RstO w b st) (hB : Basics w b) (hc : st.str = [c, 69]) (hm : st.max = 0) (hg : st.noGen = false) (ho : st.out.length ≤ 1000000000000) (ht : basicText c ≠ []) :
    Calls Tryd.prog 135 #[.pointer (some ⟨b, 0, none⟩)] w (Done b w (.tuple #[]) ((st.on [69]).putm (basicText c))) := by
  have hlt := h.lt
  have c1 := h.str
  rw [hc] at c1
  have c8 : w.cell? ⟨b, 8, none⟩ = some (.bool false) := by obtain ⟨o, h⟩ := h; rw [← hg]; exact h.noGen
  obtain ⟨t1, t2⟩ := basicText_low c ht
  have e1 : ((c.toNat : Int) == 69) = false := by simp; omega
  have e2 : ((c.toNat : Int) != 69) = true := by simp; omega
  have hp0 : 0 < (bs [c, 69]).size := by rw [bs_size]; simp
  have HA := Lib.hid (arg_low (h.alloc (.cells #[.pointer (some ⟨b, 0, none⟩)] 98)) (hB.keep ((Below.refl _ _).alloc (Nat.le_of_lt hlt) _) (Nat.le_refl _)) hc hm (by rw [hc]; simp) ho ht)
  have hk : Keep b w (w.alloc (.cells #[.pointer (some ⟨b, 0, none⟩)] 98)) := (Keep.refl b w).alloc (by omega) _
  have hbox : Blk (w.alloc (.cells #[.pointer (some ⟨b, 0, none⟩)] 98)) w.heap.size 98 #[.pointer (some ⟨b, 0, none⟩)] := Blk.new _ _ _
  have hlt' : ¬ w.heap.size = b := by omega
  have cell : ∀ W2, Keep b (w.alloc (.cells #[.pointer (some ⟨b, 0, none⟩)] 98)) W2 → W2.cell? ⟨w.heap.size, 0, none⟩ = some (.pointer (some ⟨b, 0, none⟩)) := fun W2 h => ((h.blk hbox hlt' (by decide)).cell 0).trans rfl
  have e69 : (st.on [69]).str = [69] := rfl
  have es : ((st.on [69]).putm (basicText c)).str = [69] := by rw [putm_str]; rfl
  obtain ⟨s1, hs1⟩ : ∃ s, (st.on [69]).putm (basicText c) = s := ⟨_, rfl⟩
  rw [hs1] at HA es ⊢
  replace cell := Lib.hid cell
  replace hk := Lib.hid hk
  have hp1 : 0 < (bs [69]).size := by rw [bs_size]; simp
  have g0 : (bs [69])[0]'hp1 = 69 := rfl
  have g1 : (bs [c, 69])[0]'hp0 = c := bs_get0 c [69] hp0
  have cb : ((69 : UInt8).toNat : Int) = 69 := rfl
  clear h hB hc hg ho ht t1 t2 hbox hs1 e69
  go_enter_defers Tryd.func135, Tryd.ntmps135
  go_wp2_with fail
  go_loopg [3] 1 (fun g s wr => (g = 1 ∧ s = .bool true ∧ wr = w.alloc (.cells #[.pointer (some ⟨b, 0, none⟩)] 98)) ∨ (g = 0 ∧ s = .bool false ∧ RstO wr b s1 ∧ Keep b (w.alloc (.cells #[.pointer (some ⟨b, 0, none⟩)] 98)) wr))
  case atStart => exact .inl ⟨rfl, rfl, rfl⟩
  case round =>
    rename World => wr
    rcases hrel with ⟨rfl, rfl, rfl⟩ | ⟨rfl, rfl, h1, hb1⟩
    · go_wp2_with (go_at_call 146; refine (HA.out).mono ?_; rintro e w2 ⟨rfl, h2, hb2⟩)
      go_roundg 0
      case measure => omega
      case rel => exact .inr ⟨rfl, rfl, h2, hb2⟩
    · have c1b := h1.str
      rw [es] at c1b
      have cb1 := cell.out _ hb1
      clear c1 c8
      go_wp2_with fail
      exact ⟨.tuple #[], results_none rfl _ _ _, rfl, h1, hk.out.trans hb1⟩
end

/-- A reader that writes all. -/
def pln (O : ByteArray) (l o : List UInt8) : St := { orig := O, str := l, out := o }
theorem pln_on (O : ByteArray) (l o l' : List UInt8) : (pln O l o).on l' = pln O l' o := rfl
theorem pln_put (O : ByteArray) (l o x : List UInt8) : (pln O l o).putm x = pln O l (o ++ x) := by rw [putm_keeps rfl rfl]; rfl

section
variable {w : World} {b : Nat} {O : ByteArray} {c : UInt8}
theorem crate_m (h : RstO w b (pln O [67, 49, 109, c, 69] [])) (sep : Bool) :
    Calls Tryd.prog 122 #[.pointer (some ⟨b, 0, none⟩), .bool sep] w (Done b w (.tuple #[]) (pln O [c, 69] [109])) := by
  have e : identAll [49, 109, c, 69] = some (0, [109], [c, 69]) := by rfl
  have := path_crate (sep := sep) h rfl (by show 5 ≤ _; omega) (Int.le_refl 0) (by show 0 + 40 * 5 ≤ _; omega) (by rfl)
  rw [e] at this
  exact this
end
end Go.Proofs.YtokjbdofpdncdaaDoor
