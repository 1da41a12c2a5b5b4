/- The reference's writer: a block of its own, what it has written; put. -/
import Derived.Test.YtokjbdofpdncdaaDoorMadeR
import Derived.Test.YtokjbdofpdncdaaDoorBuild
import Derived.Deep.RegionWith
namespace Go.Proofs.YtokjbdofpdncdaaDoor
open Go.RowKit Go.Lib
set_option linter.unusedVariables false
set_option maxRecDepth 100000
attribute [local go_sem] bs_size bs_toList

/-- The cells of a writer with no choices that has bound nothing. -/
def wrCells (bv : Value) (p : Bool) : Array Value := #[bv, .slice none 0 0, .slice none 0 0, .slice none 0 0, .int .i64 0, .bool p, .bool false, .int .i64 0, .slice none 0 0, .slice none 0 0]
def Wr (w : World) (b : Nat) (p : Bool) (out : List UInt8) : Prop := ∃ bv, Blk w b 66 (wrCells bv p) ∧ w.ownsRow (b + 1) 5 1 bv out.length (byteCells out)
theorem Wr.lt {w : World} {b : Nat} {p : Bool} {out : List UInt8} (h : Wr w b p out) : b < w.heap.size := by obtain ⟨_, h, _⟩ := h; exact h.lt
theorem Wr.alloc {w : World} {b : Nat} {p : Bool} {out : List UInt8} (h : Wr w b p out) (o : Obj) : Wr (w.alloc o) b p out := by
  obtain ⟨bv, h, k⟩ := h
  exact ⟨bv, h.alloc o, k.alloc o⟩
theorem Wr.drew {w : World} {b : Nat} {p : Bool} {out : List UInt8} (h : Wr w b p out) : Wr w.drew b p out := h
theorem Wr.drewN {w : World} {b : Nat} {p : Bool} {out : List UInt8} (h : Wr w b p out) (n : Nat) : Wr (w.drewN n) b p out := h
theorem Wr.keep {w w' : World} {b : Nat} {p : Bool} {out : List UInt8} (h : Wr w b p out) (hb : Below w.heap.size w w') : Wr w' b p out := by
  obtain ⟨bv, h1, h3⟩ := h
  refine ⟨bv, h1.below hb h1.lt, h3.1, ?_⟩
  rcases h3.2 with h | ⟨g, cap, cur, hv, hbg, hg, r⟩
  · exact .inl h
  · have hlt : g < w.heap.size := by
      rcases Nat.lt_or_ge g w.heap.size with h | h
      · exact h
      · rw [Array.getElem?_eq_none h] at hg; cases hg
    exact .inr ⟨g, cap, cur, hv, hbg, (hb.block g hlt).trans hg, r⟩

set_option maxHeartbeats 2000000 in
theorem wrPut_any {w : World} {b : Nat} {p : Bool} {out : List UInt8} (h : Wr w b p out) (l : List UInt8) (hl : l ≠ []) (hlen : out.length + l.length ≤ 140737488355328) :
    Calls Tryd.prog 48 #[.pointer (some ⟨b, 0, none⟩), .string (bs l)] w fun e w' =>
      e = .returned (.tuple #[]) ∧ Wr w' b p (out ++ l) ∧ Keep b w w' := by
  obtain ⟨i0, hi, hz0, hz1, hz2⟩ := info_parts (show (Tryd.prog.info? 5).map (fun i => (i.zero, i.size, i.bytes)) = some (some (.int .u8 0), 1, 1) by kernel_rfl)
  obtain ⟨bv, hb, ho⟩ := h
  have hlt := Lib.hid hb.lt
  obtain ⟨d, l0, rfl⟩ : ∃ d l0, l = d :: l0 := by cases l with | nil => exact absurd rfl hl | cons d l0 => exact ⟨d, l0, rfl⟩
  have hle : (d :: l0).isEmpty = false := rfl
  have c0 : w.cell? ⟨b, 0, none⟩ = some bv := hb.cell 0
  have c6 : w.cell? ⟨b, 6, none⟩ = some (.bool false) := hb.cell 6
  have f6 : w.frozen? ⟨b, 6, none⟩ = false := hb.frozen 6
  have hb1 : Blk (w.setCell ⟨b, 6, none⟩ (.bool false)) b 66 (wrCells bv p) := hb.set_ 6 _
  have d0 : (w.setCell ⟨b, 6, none⟩ (.bool false)).cell? ⟨b, 0, none⟩ = some bv := hb1.cell 0
  have ho1 : (w.setCell ⟨b, 6, none⟩ (.bool false)).ownsRow (b + 1) 5 1 bv out.length (byteCells out) := ownsRow_setCell_below ho (Nat.lt_succ_self b) _
  go_enter Tryd.func48, Tryd.ntmps48
  go_wp2_with (at_builtin; refine Lib.wpList_append_own_string _ rfl _ _ 23 9 rfl (b + 1) 5 i0 Tryd.underlying23 Tryd.underlying9 hi hz0 hz1 hz2 _ _ _ rfl ho1 (bs (d :: l0)) rfl ?c3 ?c4 ?c5 ?_)
  case c3 => rw [bs_size]; unfold maxLen; omega
  case c4 => rw [bs_size]; omega
  case c5 => have := hb1.lt; omega
  intro v' w2 hown' hgrow _
  have hb2 : Blk w2 b 66 (wrCells bv p) := hb1.grown hgrow (fun e => by
    rcases ho.2 with ⟨hv, _⟩ | ⟨g, cap, cur, hv, hbg, _⟩
    · rw [hv] at e; simp [Value.ownBlock] at e
    · rw [hv] at e; simp [Value.ownBlock] at e; omega)
  have d4 : w2.cell? ⟨b, 0, none⟩ = some bv := hb2.cell 0
  have f4 : w2.frozen? ⟨b, 0, none⟩ = false := hb2.frozen 0
  rw [strCells_bs] at hown'
  obtain ⟨ao, n', cap, rfl⟩ : ∃ ao n' cap, v' = .slice ao n' cap := by
    rcases hown'.2 with ⟨hv, _⟩ | ⟨g, cap, cur, hv, _⟩
    · exact ⟨_, _, _, hv⟩
    · exact ⟨_, _, _, hv⟩
  go_wp2
  go_end0
  refine ⟨rfl, ⟨_, hb2.set_ 0 _, ?_⟩, ?_⟩
  · rw [byteCells_append, List.length_append, List.length_cons]
    exact ownsRow_setCell_below hown' (Nat.lt_succ_self b) _
  · exact (((Keep.refl b w).setCell (p := ⟨b, 6, none⟩) rfl _).grown hgrow (by have := hb1.lt; omega) (fun k hk => ⟨by have := (owns_typed ho1 k hk).1; omega, (owns_typed ho1 k hk).2⟩)).setCell (p := ⟨b, 0, none⟩) rfl _
theorem wr_path (w : World) (k : Int) (hk : k = 20 ∨ k = 21) : Calls Tryd.prog 40 #[.int .i64 k] w fun e w' => e = .returned (.bool false) ∧ w = w' := by
  rcases hk with rfl | rfl
  all_goals
    go_enter Tryd.func40, Tryd.ntmps40
    go_wp2
    go_ret
    exact ⟨rfl, rfl⟩
set_option maxHeartbeats 2000000 in
theorem wrWrite_hole {w : World} {b : Nat} {p : Bool} {out : List UInt8} (h : Wr w b p out) (hlen : out.length + 100 ≤ 140737488355328) (c n : Int) (nm : List UInt8) (f : Bool) (A : Option Addr) (kn kc : Nat) :
    Calls Tryd.prog 45 #[.pointer (some ⟨b, 0, none⟩), rustV 21 c nm n f A kn kc] w fun e w' =>
      e = .returned (.tuple #[]) ∧ Wr w' b p (out ++ [112]) ∧ Keep b w w' := by
  have HPa := Lib.hid (fun W => wr_path W 21 (.inr rfl))
  have HW := Lib.hid (fun (W : World) (hW : Wr W b p out) => wrPut_any hW [112] (by simp) (by simp; omega))
  have hblt := h.lt
  unfold rustV
  go_enter Tryd.func45, Tryd.ntmps45
  go_wp2_with (first
    | (go_at_call 40; refine (HPa.out _).mono ?_; rintro e w1 ⟨rfl, rfl⟩)
    | (go_at_call 48; refine (HW.out _ (h.alloc _)).mono ?_; rintro e w2 ⟨rfl, h2, hb2⟩))
  go_end0
  exact ⟨rfl, h2, ((Keep.refl _ _).alloc (by omega) _).trans hb2⟩
theorem w_one (d : UInt8) (V : World) (b : Nat) (hc : V.cell? ⟨b, 0, none⟩ = some (.int .u8 (d.toNat : Int))) : (convert 23 9 (.slice (some ⟨b, 0, none⟩) 1 1)).run Tryd.prog V = .ok (.string (bs [d])) V := by
  refine Bytes.convert (P := Tryd.prog) (A := some ⟨b, 0, none⟩) (n := 1) (l := [d]) ⟨rfl, .inr ⟨_, 0, rfl, World.block_lt_of_cell? V _ hc, fun j hj => ?_⟩⟩ 1 Tryd.underlying23 Tryd.underlying5 Tryd.underlying9
  have hj0 : j = 0 := by simp at hj; omega
  subst hj0
  exact hc
theorem w_heap (W : World) (m : Nat) : (W.drewN m).heap = W.heap := by
  induction m generalizing W with
  | zero => rfl
  | succ m ih => exact ih W.drew
theorem w_new1 (W : World) (m : Nat) (x : Int) : ((W.drewN m).alloc (.cells #[.int .u8 x] 5)).cell? ⟨W.heap.size, 0, none⟩ = some (.int .u8 x) := by
  have := (Blk.new (W.drewN m) 5 #[Value.int .u8 x]).cell 0
  rw [w_heap] at this
  exact this
theorem w_new2 (W : World) (m : Nat) (x : Int) : ((W.alloc (.cells #[.int .u8 x] 5)).drewN m).cell? ⟨W.heap.size, 0, none⟩ = some (.int .u8 x) := by
  have := (Blk.new W 5 #[Value.int .u8 x]).cell 0
  unfold World.cell? at this ⊢
  rw [w_heap]
  exact this

end Go.Proofs.YtokjbdofpdncdaaDoor
