/- The reader's path, where it is of crates and nested parts: the walk. -/
import Derived.Test.YtokjbdofpdncdaaDoorPutm
import Derived.Test.YtokjbdofpdncdaaDoorBox
import Derived.Test.YtokjbdofpdncdaaDoorFmtInt
import Derived.Deep.RegionWith
import Derived.IntWalk
namespace Go.Proofs.YtokjbdofpdncdaaDoor
open Go.RowKit Go.Lib
set_option linter.unusedVariables false
set_option maxRecDepth 100000
attribute [local go_sem] bs_size bs_get0

def PathEnd (b : Nat) (w : World) (r : Option St) (e : Ending) (w' : World) : Prop :=
  match r with
  | none => Fell b w e w'
  | some st' => Done b w (.tuple #[]) st' e w'

theorem fail_o {w : World} {b : Nat} {st : St} (h : RstO w b st) (m : ByteArray) :
    Calls Tryd.prog 80 #[.pointer (some ⟨b, 0, none⟩), .string m] w fun e w' => Failed e ∧ w = w' := by
  obtain ⟨o, h⟩ := h
  exact fail_any h m
theorem RstO.lt {w : World} {b : Nat} {st : St} (h : RstO w b st) : b < w.heap.size := by obtain ⟨o, h⟩ := h; exact h.lt
theorem RstO.str {w : World} {b : Nat} {st : St} (h : RstO w b st) : w.cell? ⟨b, 1, none⟩ = some (.string (bs st.str)) := by obtain ⟨o, h⟩ := h; exact h.str
theorem RstO.skip {w : World} {b : Nat} {st : St} (h : RstO w b st) : w.cell? ⟨b, 5, none⟩ = some (.bool st.skip) := by obtain ⟨o, h⟩ := h; exact h.skip
theorem RstO.max {w : World} {b : Nat} {st : St} (h : RstO w b st) : w.cell? ⟨b, 9, none⟩ = some (.int .i64 st.max) := by obtain ⟨o, h⟩ := h; exact h.max
theorem RstO.free {w : World} {b : Nat} {st : St} (h : RstO w b st) (i : Nat) : w.frozen? ⟨b, i, none⟩ = false := by obtain ⟨o, h⟩ := h; exact h.free i
theorem RstO.alloc {w : World} {b : Nat} {st : St} (h : RstO w b st) (o : Obj) : RstO (w.alloc o) b st := by obtain ⟨x, h⟩ := h; exact ⟨x, h.allocd o⟩
theorem RstO.drew {w : World} {b : Nat} {st : St} (h : RstO w b st) : RstO w.drew b st := h
theorem RstO.last {w : World} {b : Nat} {st : St} (h : RstO w b st) : ∃ q, w.cell? ⟨b, 7, none⟩ = some (.int .u8 q) := by
  obtain ⟨o, x, av, bv, h, _⟩ := h
  exact ⟨x, h.cell 7⟩
theorem Rst.keepB {w w' : World} {b : Nat} {st : St} (h : Rst w b st) (hb : Below w.heap.size w w') : Rst w' b st := by
  obtain ⟨x, av, bv, h1, h2, h3⟩ := h
  refine ⟨x, av, bv, h1.below hb h1.lt, h2, h3.1, ?_⟩
  rcases h3.2 with h | ⟨g, cap, cur, hv, hbg, hg, r⟩
  · exact .inl h
  · have hlt : g < w.heap.size := by
      rcases Nat.lt_or_ge g w.heap.size with h | h
      · exact h
      · rw [Array.getElem?_eq_none h] at hg; cases hg
    exact .inr ⟨g, cap, cur, hv, hbg, (hb.block g hlt).trans hg, r⟩
theorem RstO.keepB {w w' : World} {b : Nat} {st : St} (h : RstO w b st) (hb : Below w.heap.size w w') : RstO w' b st := by obtain ⟨o, h⟩ := h; exact ⟨o, h.keepB hb⟩

/-- The reader and the flag in blocks of their own. -/
def boxed (w : World) (b : Nat) (sep : Bool) : World := (w.alloc (.cells #[.pointer (some ⟨b, 0, none⟩)] 98)).alloc (.cells #[.bool sep] 4)
theorem boxed_keep {w : World} {b : Nat} (h : b < w.heap.size) (sep : Bool) : Keep b w (boxed w b sep) :=
  ((Keep.refl b w).alloc (by omega) _).alloc (by simp only [World.size_alloc]; omega) _
theorem boxed_cells {w W : World} {b : Nat} {sep : Bool} (h : b < w.heap.size) (hk : Keep b (boxed w b sep) W) :
    W.cell? ⟨w.heap.size, 0, none⟩ = some (.pointer (some ⟨b, 0, none⟩)) ∧ W.cell? ⟨w.heap.size + 1, 0, none⟩ = some (.bool sep) := by
  have h1 : Blk (boxed w b sep) w.heap.size 98 #[.pointer (some ⟨b, 0, none⟩)] := (Blk.new _ _ _).alloc _
  have h2 : Blk (boxed w b sep) (w.heap.size + 1) 4 #[.bool sep] := by
    have := Blk.new (w.alloc (.cells #[.pointer (some ⟨b, 0, none⟩)] 98)) 4 #[.bool sep]
    rw [World.size_alloc] at this
    exact this
  exact ⟨((hk.blk h1 (by omega) (by decide)).cell 0).trans rfl, ((hk.blk h2 (by omega) (by decide)).cell 0).trans rfl⟩

section
variable {w : World} {b : Nat} {st : St} {sep : Bool}
theorem path_nil (h : RstO w b st) (hs : st.str = []) :
    Calls Tryd.prog 122 #[.pointer (some ⟨b, 0, none⟩), .bool sep] w (Fell b w) := by
  have hlt := h.lt
  have c1 := h.str
  rw [hs] at c1
  have HF := Lib.hid (fun m => fail_o (w := boxed w b sep) ((h.alloc _).alloc _) m)
  have HK := Lib.hid (boxed_keep hlt sep)
  clear h hs
  go_enter Tryd.func122, Tryd.ntmps122
  go_wp2_with (go_at_call 80; refine (HF.out _).mono ?_; rintro e w1 ⟨⟨_, _, rfl⟩, rfl⟩)
  exact ⟨rfl, ⟨_, _, rfl⟩, HK.out⟩

theorem path_other {c : UInt8} {l : List UInt8} (h : RstO w b st) (hs : st.str = c :: l) (h1 : c ≠ 67) (h2 : c ≠ 78) (h3 : ¬ (c = 77 ∨ c = 88 ∨ c = 89 ∨ c = 73 ∨ c = 66)) :
    Calls Tryd.prog 122 #[.pointer (some ⟨b, 0, none⟩), .bool sep] w (Fell b w) := by
  have hlt := h.lt
  have c1 := h.str
  rw [hs] at c1
  have hp0 : 0 < (bs (c :: l)).size := by rw [bs_size]; simp
  have hlen : ¬ ((l.length : Int) + 1 < 1) := by omega
  have ne : ∀ k : UInt8, c ≠ k → ((c.toNat : Int) == (k.toNat : Int)) = false := fun k hk => by
    have : c.toNat ≠ k.toNat := fun e => hk (UInt8.toNat_inj.1 e)
    simp; omega
  have e1 : ((c.toNat : Int) == 67) = false := ne 67 h1
  have e2 : ((c.toNat : Int) == 78) = false := ne 78 h2
  have e3 : ((c.toNat : Int) == 77) = false := ne 77 (fun e => h3 (by simp [e]))
  have e4 : ((c.toNat : Int) == 88) = false := ne 88 (fun e => h3 (by simp [e]))
  have e5 : ((c.toNat : Int) == 89) = false := ne 89 (fun e => h3 (by simp [e]))
  have e6 : ((c.toNat : Int) == 73) = false := ne 73 (fun e => h3 (by simp [e]))
  have e7 : ((c.toNat : Int) == 66) = false := ne 66 (fun e => h3 (by simp [e]))
  have HF := Lib.hid (fun m => fail_o (w := boxed w b sep) ((h.alloc _).alloc _) m)
  have HK := Lib.hid (boxed_keep hlt sep)
  clear h hs ne h1 h2 h3
  go_enter Tryd.func122, Tryd.ntmps122
  go_wp2_with (go_at_call 80; refine (HF.out _).mono ?_; rintro e w1 ⟨⟨_, _, rfl⟩, rfl⟩)
  exact ⟨rfl, ⟨_, _, rfl⟩, HK.out⟩

set_option maxHeartbeats 1000000 in
theorem path_crate {l : List UInt8} (h : RstO w b st) (hs : st.str = 67 :: l) (hl : st.str.length ≤ 1000000000000) (hm : 0 ≤ st.max) (ho : st.out.length + 40 * st.str.length ≤ 1000000000000) (hu : uIn l = false) :
    Calls Tryd.prog 122 #[.pointer (some ⟨b, 0, none⟩), .bool sep] w (PathEnd b w ((identAll l).map fun p => (st.on p.2.2).putm p.2.1)) := by
  have hlt := h.lt
  have c1 := h.str
  rw [hs] at c1
  have hl' : l.length ≤ 1000000000000 := by rw [hs, List.length_cons] at hl; omega
  have hp0 : 0 < (bs (67 :: l)).size := by rw [bs_size]; simp
  have hlen : ¬ ((l.length : Int) + 1 < 1) := by omega
  have cb : ((67 : UInt8).toNat : Int) = 67 := rfl
  have HA := Lib.hid (adv_o (w := boxed w b sep) ((h.alloc _).alloc _) hs (by omega))
  have HI := fun (W : World) (hW : RstO W b (st.on l)) => ident_o hW (noUIn_of hu) (by show l.length ≤ _; omega)
  have HX := Lib.hid (fun (W : World) => boxed_cells (W := W) (sep := sep) hlt)
  have HK := Lib.hid (boxed_keep hlt sep)
  rw [hs, List.length_cons] at ho
  obtain ⟨r, hr⟩ : ∃ r, identAll l = r := ⟨_, rfl⟩
  have hr' := hr
  rw [show (st.on l).str = l from rfl, hr] at HI
  rw [hr]
  replace HI := Lib.hid HI
  cases r with
  | none =>
    clear h hs hr hr' hu
    go_enter Tryd.func122, Tryd.ntmps122
    go_wp2_with (first
      | (go_at_call 81; refine (HA.out).mono ?_; rintro e w2 ⟨rfl, h2, hb2⟩; obtain ⟨x2, y2⟩ := HX.out _ hb2)
      | (go_at_call 131; refine (HI.out _ h2).mono ?_; rintro e w3 ⟨⟨_, _, rfl⟩, hb3⟩))
    exact ⟨rfl, ⟨_, _, rfl⟩, (HK.out.trans hb2).trans hb3⟩
  | some p =>
    obtain ⟨d, nm, rr⟩ := p
    have hln := identAll_len hr'
    have HW := Lib.hid (fun (W : World) (hW : RstO W b (st.on rr)) => write_o hW hm nm (by show st.out.length + nm.length ≤ _; omega))
    clear h hs hr hr' hu hm ho hln
    go_enter Tryd.func122, Tryd.ntmps122
    go_wp2_with (first
      | (go_at_call 81; refine (HA.out).mono ?_; rintro e w2 ⟨rfl, h2, hb2⟩; obtain ⟨x2, y2⟩ := HX.out _ hb2)
      | (go_at_call 131; refine (HI.out _ h2).mono ?_; rintro e w3 ⟨rfl, h3, hb3⟩; replace hb3 := hb2.trans hb3; obtain ⟨x3, y3⟩ := HX.out _ hb3)
      | (go_at_call 82; refine (HW.out _ h3).mono ?_; rintro e w4 ⟨rfl, h4, hb4⟩))
    go_end0
    exact ⟨rfl, h4, (HK.out.trans hb3).trans hb4⟩
end
end Go.Proofs.YtokjbdofpdncdaaDoor
