/- A Builder in a block of its own: copyCheck, Len, WriteString, WriteByte, String. -/
import Derived.Test.YtokjbdofpdncdaaDoorString
import Derived.Test.YtokjbdofpdncdaaDoorBuild
import Derived.OwnWalk
namespace Go.Proofs.YtokjbdofpdncdaaDoor
open Go.RowKit
set_option linter.unusedVariables false
set_option maxRecDepth 100000

/-- Block b is a Builder in which this has been written. -/
def Bld (w : World) (b : Nat) (out : List UInt8) : Prop := ∃ av bv, Blk w b 111 #[av, bv] ∧ Buf w b 0 av bv out
theorem Bld.lt {w : World} {b : Nat} {out : List UInt8} (h : Bld w b out) : b < w.heap.size := by obtain ⟨_, _, h, _⟩ := h; exact h.lt
theorem Bld.drew {w : World} {b : Nat} {out : List UInt8} (h : Bld w b out) : Bld w.drew b out := h
theorem Bld.drewN {w : World} {b : Nat} {out : List UInt8} (h : Bld w b out) (n : Nat) : Bld (w.drewN n) b out := h
theorem Bld.new (w : World) : Bld (w.alloc (.cells #[.pointer none, .slice none 0 0] 111)) w.heap.size [] :=
  ⟨_, _, Blk.new _ _ _, .inl rfl, rfl, .inl ⟨rfl, rfl⟩⟩
theorem Bld.alloc {w : World} {b : Nat} {out : List UInt8} (h : Bld w b out) (o : Obj) : Bld (w.alloc o) b out := by
  obtain ⟨av, bv, h, k⟩ := h
  exact ⟨av, bv, h.alloc o, k.1, k.2.alloc o⟩
theorem Bld.keep {w w' : World} {b : Nat} {out : List UInt8} (h : Bld w b out) (hb : Below w.heap.size w w') : Bld w' b out := by
  obtain ⟨av, bv, h1, h2, h3⟩ := h
  refine ⟨av, bv, h1.below hb h1.lt, h2, h3.1, ?_⟩
  rcases h3.2 with h | ⟨g, cap, cur, hv, hbg, hg, r⟩
  · exact .inl h
  · have hlt : g < w.heap.size := by
      rcases Nat.lt_or_ge g w.heap.size with h | h
      · exact h
      · rw [Array.getElem?_eq_none h] at hg; cases hg
    exact .inr ⟨g, cap, cur, hv, hbg, (hb.block g hlt).trans hg, r⟩

theorem sbCheck_fresh {w : World} {b : Nat} (c3 : w.cell? ⟨b, 0, none⟩ = some (.pointer none)) (hsh : w.shape? b = some (111, 2)) (hf : w.frozen? ⟨b, 0, none⟩ = false) :
    Calls Tryd.prog 84 #[.pointer (some ⟨b, 0, none⟩)] w fun e w' => e = .returned (.tuple #[]) ∧ w' = w.setCell ⟨b, 0, none⟩ (.pointer (some ⟨b, 0, none⟩)) := by
  obtain ⟨j, hj, hjs⟩ := Option.map_eq_some_iff.1 (show (Tryd.prog.info? 111).map (·.size) = some 2 by kernel_rfl)
  have hlies : liesAt Tryd.prog Tryd.prog.depth 111 (2 / Tryd.prog.cellsOf 111) 0 111 1 = true := by kernel_rfl
  go_enter Tryd.func84, Tryd.ntmps84
  go_wp2
  rw [Lib.run_to_unsafe w ⟨b, 0, none⟩ Tryd.underlying109 Tryd.underlying144 hj (by rw [hjs]; decide) hsh (show 0 < 2 by decide)]
  simp only [Result.andThen]
  rw [Oper.upon_value]
  go_wp2
  rw [run_callFunc_extern Tryd.func107 (by kernel_rfl) (by kernel_rfl) (by kernel_rfl) (e := Extern.AbiNoEscape.same) (by kernel_rfl)]
  rw [Lib.run_noEscape]
  simp only [Result.andThen]
  rw [Oper.upon_value]
  go_wp2
  rw [Lib.run_from_unsafe w ⟨b, 0, none⟩ Tryd.underlying144 Tryd.underlying109 hj hsh hlies]
  simp only [Result.andThen]
  rw [Oper.upon_value]
  go_wp2
  go_end0
  exact ⟨rfl, rfl⟩

def BldUsed (w : World) (b : Nat) (out : List UInt8) (bv : Value) : Prop :=
  Blk w b 111 #[.pointer (some ⟨b, 0, none⟩), bv] ∧ w.ownsRow (b + 1) 5 1 bv out.length (byteCells out)

theorem sbCheck_any {w : World} {b : Nat} {out : List UInt8} (h : Bld w b out) :
    Calls Tryd.prog 84 #[.pointer (some ⟨b, 0, none⟩)] w fun e w' => e = .returned (.tuple #[]) ∧ (∃ bv, BldUsed w' b out bv) ∧ Below b w w' := by
  obtain ⟨av, bv, hb, ha | ha, ho⟩ := h
  · subst ha
    refine (sbCheck_fresh (hb.cell 0) hb.shape (hb.frozen 0)).mono ?_
    rintro e w' ⟨rfl, rfl⟩
    exact ⟨rfl, ⟨bv, hb.set_ 0 _, ownsRow_setCell_below ho (Nat.lt_succ_self b) _⟩, (Below.refl b w).setCell (p := ⟨b, 0, none⟩) (Nat.le_refl _) _⟩
  · subst ha
    refine (copyCheck_used (hb.cell 0)).mono ?_
    rintro e w' ⟨rfl, rfl⟩
    exact ⟨rfl, ⟨bv, hb, ho⟩, Below.refl b _⟩

theorem sbLen_any {w : World} {b : Nat} {out : List UInt8} (h : Bld w b out) :
    Calls Tryd.prog 60 #[.pointer (some ⟨b, 0, none⟩)] w fun e w' => e = .returned (.int .i64 out.length) ∧ w' = w := by
  obtain ⟨av, bv, hb, _, ho⟩ := h
  obtain ⟨ao, cap, rfl⟩ : ∃ ao cap, bv = .slice ao out.length cap := by
    rcases ho.2 with ⟨hv, h0⟩ | ⟨g, cap, cur, hv, _⟩
    · exact ⟨none, 0, by rw [hv, h0]⟩
    · exact ⟨_, _, hv⟩
  have c4 : w.cell? ⟨b, 1, none⟩ = some (.slice ao out.length cap) := hb.cell 1
  clear hb ho
  go_enter Tryd.func60, Tryd.ntmps60
  go_wp2
  go_ret
  exact ⟨rfl, rfl⟩

theorem sbString_any {w : World} {b : Nat} {out : List UInt8} (h : Bld w b out) :
    Calls Tryd.prog 65 #[.pointer (some ⟨b, 0, none⟩)] w fun e w' => e = .returned (.string (bs out)) ∧ Below (b + 1) w w' := by
  obtain ⟨av, bv, hb, hB⟩ := h
  exact string_any (o := 0) hb.lt (hb.cell 1) hB

set_option maxHeartbeats 2000000 in
theorem sbWrite_any {w : World} {b : Nat} {out : List UInt8} (h : Bld w b out) (l : List UInt8) (hlen : out.length + l.length ≤ 140737488355328) :
    Calls Tryd.prog 62 #[.pointer (some ⟨b, 0, none⟩), .string (bs l)] w fun e w' =>
      (∃ v, e = .returned v) ∧ Bld w' b (out ++ l) ∧ Below b w w' := by
  obtain ⟨i0, hi, hz0, hz1, hz2⟩ := info_parts (show (Tryd.prog.info? 5).map (fun i => (i.zero, i.size, i.bytes)) = some (some (.int .u8 0), 1, 1) by kernel_rfl)
  have HC := Lib.hid (sbCheck_any h)
  have hlt := Lib.hid h.lt
  go_enter Tryd.func62, Tryd.ntmps62
  go_wp2_with (go_at_call 84; refine (HC.out).mono ?_)
  rintro e w1 ⟨rfl, ⟨bv, hb, ho⟩, hb1⟩
  have c4 : w1.cell? ⟨b, 1, none⟩ = some bv := hb.cell 1
  go_wp2_with (at_builtin; refine Lib.wpList_append_own_string _ rfl _ _ 23 9 rfl (b + 1) 5 i0 Tryd.underlying23 Tryd.underlying9 hi hz0 hz1 hz2 _ _ _ rfl ho (bs l) rfl ?c3 ?c4 ?c5 ?_)
  case c3 => rw [bs_size]; unfold maxLen; omega
  case c4 => rw [bs_size]; omega
  case c5 => have := hb.lt; omega
  intro v' w2 hown' hgrow _
  have hb2 : Blk w2 b 111 #[.pointer (some ⟨b, 0, none⟩), bv] := hb.grown hgrow (fun e => by
    rcases ho.2 with ⟨hv, _⟩ | ⟨g, cap, cur, hv, hbg, _⟩
    · rw [hv] at e; simp [Value.ownBlock] at e
    · rw [hv] at e; simp [Value.ownBlock] at e; omega)
  have d4 : w2.cell? ⟨b, 1, none⟩ = some bv := hb2.cell 1
  have f4 : w2.frozen? ⟨b, 1, none⟩ = false := hb2.frozen 1
  rw [bs_size, strCells_bs] at hown'
  obtain ⟨ao, n', cap, rfl⟩ : ∃ ao n' cap, v' = .slice ao n' cap := by
    rcases hown'.2 with ⟨hv, _⟩ | ⟨g, cap, cur, hv, _⟩
    · exact ⟨_, _, _, hv⟩
    · exact ⟨_, _, _, hv⟩
  go_wp2
  go_ret2
  refine ⟨⟨_, rfl⟩, ⟨_, _, hb2.set_ 1 _, .inr rfl, ?_⟩, ?_⟩
  · rw [byteCells_append, List.length_append]
    exact ownsRow_setCell_below hown' (Nat.lt_succ_self b) _
  · exact (hb1.grown hgrow (by have := hb.lt; omega) (fun k hk => by have := (owns_typed ho k hk).1; omega)).setCell (p := ⟨b, 1, none⟩) (Nat.le_refl _) _

set_option maxHeartbeats 2000000 in
theorem sbByte_any {w : World} {b : Nat} {out : List UInt8} (h : Bld w b out) (c : UInt8) (hlen : out.length + 1 ≤ 140737488355328) :
    Calls Tryd.prog 64 #[.pointer (some ⟨b, 0, none⟩), .int .u8 (c.toNat : Int)] w fun e w' =>
      (∃ v, e = .returned v) ∧ Bld w' b (out ++ [c]) ∧ Below b w w' := by
  obtain ⟨i0, hi, hz0, hz1, hz2⟩ := info_parts (show (Tryd.prog.info? 5).map (fun i => (i.zero, i.size, i.bytes)) = some (some (.int .u8 0), 1, 1) by kernel_rfl)
  have HC := Lib.hid (sbCheck_any h)
  go_enter Tryd.func64, Tryd.ntmps64
  go_wp2_with (go_at_call 84; refine (HC.out).mono ?_)
  rintro e w1 ⟨rfl, ⟨bv, hb, ho⟩, hb1⟩
  have c4 : w1.cell? ⟨b, 1, none⟩ = some bv := hb.cell 1
  have hblt := hb.lt
  go_wp2_with (at_builtin; refine wpList_append_own _ rfl _ _ 23 rfl (b + 1) 5 i0 (.int .u8 0) 1 1 Tryd.underlying23 hi hz0 hz1 hz2 rfl (by decide) _ _ _ rfl (ho.alloc _) ⟨w1.heap.size, 0, none⟩ 1 1 [.int .u8 (c.toNat : Int)] rfl rfl ?c1 ?c2 ?c3 ?c4 ?c5 ?_)
  case c1 =>
    intro j u hj
    match j, hj with
    | 0, hj => simp at hj; subst hj; simp [Addr.add]
  case c2 => intro u hu; simp at hu; subst hu; rfl
  case c3 => unfold maxLen; omega
  case c4 => omega
  case c5 => simp; omega
  intro v' w2 hown' hgrow _
  have hb2 : Blk w2 b 111 #[.pointer (some ⟨b, 0, none⟩), bv] := (hb.alloc _).grown hgrow (fun e => by
    rcases ho.2 with ⟨hv, _⟩ | ⟨g, cap, cur, hv, hbg, _⟩
    · rw [hv] at e; simp [Value.ownBlock] at e
    · rw [hv] at e; simp [Value.ownBlock] at e; omega)
  have d4 : w2.cell? ⟨b, 1, none⟩ = some bv := hb2.cell 1
  have f4 : w2.frozen? ⟨b, 1, none⟩ = false := hb2.frozen 1
  obtain ⟨ao, n', cap, rfl⟩ : ∃ ao n' cap, v' = .slice ao n' cap := by
    rcases hown'.2 with ⟨hv, _⟩ | ⟨g, cap, cur, hv, _⟩
    · exact ⟨_, _, _, hv⟩
    · exact ⟨_, _, _, hv⟩
  go_wp2
  go_ret
  refine ⟨⟨_, rfl⟩, ⟨_, _, hb2.set_ 1 _, .inr rfl, ?_⟩, ?_⟩
  · rw [byteCells_append, List.length_append]
    exact ownsRow_setCell_below hown' (Nat.lt_succ_self b) _
  · exact ((hb1.alloc (by omega) _).grown hgrow (by simp; omega) (fun k hk => by have := (owns_typed ho k hk).1; omega)).setCell (p := ⟨b, 1, none⟩) (Nat.le_refl _) _
end Go.Proofs.YtokjbdofpdncdaaDoor
