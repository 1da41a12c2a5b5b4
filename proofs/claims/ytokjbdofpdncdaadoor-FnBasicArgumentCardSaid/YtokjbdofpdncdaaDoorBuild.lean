/- The Builder inside the reader: copyCheck, Len, WriteString; the reader's own writing (where no length is asked). -/
import Derived.Test.YtokjbdofpdncdaaDoorRst
import Derived.Lib.Builder
import Derived.Lib.AppendStr
import Derived.Deep.RegionWith
namespace Go.Proofs.YtokjbdofpdncdaaDoor
open Go.RowKit
set_option linter.unusedVariables false
set_option maxRecDepth 100000

theorem strCells_bs (l : List UInt8) : Lib.strCells (bs l) = byteCells l := by
  simp [Lib.strCells, byteCells, bs]

/-- The state behind copyCheck: the Builder holds its own address. -/
def RstUsed (w : World) (b : Nat) (st : St) (last : Int) (bv : Value) : Prop :=
  Blk w b 125 (rstCells st last (.pointer (some ⟨b, 3, none⟩)) bv) ∧ w.ownsRow (b + 1) 5 1 bv st.out.length (byteCells st.out)

theorem RstUsed.rst {w : World} {b : Nat} {st : St} {last : Int} {bv : Value} (h : RstUsed w b st last bv) : Rst w b st := ⟨last, _, bv, h.1, .inr rfl, h.2⟩

theorem copyCheck_used {w : World} {b o : Nat} (c3 : w.cell? ⟨b, o, none⟩ = some (.pointer (some ⟨b, o, none⟩))) :
    Calls Tryd.prog 84 #[.pointer (some ⟨b, o, none⟩)] w fun e w' => e = .returned (.tuple #[]) ∧ w' = w := by
  obtain ⟨j, hj, _⟩ := Option.map_eq_some_iff.1 (show (Tryd.prog.info? 111).map (·.size) = some 2 by kernel_rfl)
  go_enter Tryd.func84, Tryd.ntmps84
  go_wp2
  rw [Lib.run_neq_ptr_same w _ Tryd.underlying109 hj]
  go_wp2
  go_end0
  exact ⟨rfl, rfl⟩

theorem copyCheck_fresh {w : World} {b : Nat} (c3 : w.cell? ⟨b, 3, none⟩ = some (.pointer none)) (hsh : w.shape? b = some (125, 10)) (hf : w.frozen? ⟨b, 3, none⟩ = false) :
    Calls Tryd.prog 84 #[.pointer (some ⟨b, 3, none⟩)] w fun e w' => e = .returned (.tuple #[]) ∧ w' = w.setCell ⟨b, 3, none⟩ (.pointer (some ⟨b, 3, none⟩)) := by
  obtain ⟨j, hj, hjs⟩ := Option.map_eq_some_iff.1 (show (Tryd.prog.info? 111).map (·.size) = some 2 by kernel_rfl)
  have hlies : liesAt Tryd.prog Tryd.prog.depth 125 (10 / Tryd.prog.cellsOf 125) 3 111 1 = true := by kernel_rfl
  go_enter Tryd.func84, Tryd.ntmps84
  go_wp2
  rw [Lib.run_to_unsafe w ⟨b, 3, none⟩ Tryd.underlying109 Tryd.underlying144 hj (by rw [hjs]; decide) hsh (show 3 < 10 by decide)]
  simp only [Result.andThen]
  rw [Oper.upon_value]
  go_wp2
  rw [run_callFunc_extern Tryd.func107 (by kernel_rfl) (by kernel_rfl) (by kernel_rfl) (e := Extern.AbiNoEscape.same) (by kernel_rfl)]
  rw [Lib.run_noEscape]
  simp only [Result.andThen]
  rw [Oper.upon_value]
  go_wp2
  rw [Lib.run_from_unsafe w ⟨b, 3, none⟩ Tryd.underlying144 Tryd.underlying109 hj hsh hlies]
  simp only [Result.andThen]
  rw [Oper.upon_value]
  go_wp2
  go_end0
  exact ⟨rfl, rfl⟩

theorem copyCheck_any {w : World} {b : Nat} {st : St} (h : Rst w b st) :
    Calls Tryd.prog 84 #[.pointer (some ⟨b, 3, none⟩)] w fun e w' => e = .returned (.tuple #[]) ∧ (∃ last bv, RstUsed w' b st last bv) ∧ Keep b w w' := by
  obtain ⟨last, av, bv, hb, ha | ha, ho⟩ := h
  · subst ha
    refine (copyCheck_fresh (hb.cell 3) hb.shape (hb.frozen 3)).mono ?_
    rintro e w' ⟨rfl, rfl⟩
    exact ⟨rfl, ⟨last, bv, hb.set_ 3 _, ownsRow_setCell_below ho (Nat.lt_succ_self b) _⟩, (Keep.refl b w).setCell rfl _⟩
  · subst ha
    refine (copyCheck_used (hb.cell 3)).mono ?_
    rintro e w' ⟨rfl, rfl⟩
    exact ⟨rfl, ⟨last, bv, hb, ho⟩, Keep.refl b _⟩

theorem len_any {w : World} {b : Nat} {st : St} (h : Rst w b st) :
    Calls Tryd.prog 60 #[.pointer (some ⟨b, 3, none⟩)] w fun e w' => e = .returned (.int .i64 st.out.length) ∧ w' = w := by
  obtain ⟨last, av, bv, hb, _, ho⟩ := h
  obtain ⟨ao, cap, rfl⟩ : ∃ ao cap, bv = .slice ao st.out.length cap := by
    rcases ho.2 with ⟨hv, h0⟩ | ⟨g, cap, cur, hv, _⟩
    · exact ⟨none, 0, by rw [hv, h0]⟩
    · exact ⟨_, _, hv⟩
  have c4 : w.cell? ⟨b, 4, none⟩ = some (.slice ao st.out.length cap) := hb.cell 4
  clear hb ho
  go_enter Tryd.func60, Tryd.ntmps60
  go_wp2
  go_ret
  exact ⟨rfl, rfl⟩

set_option maxHeartbeats 2000000 in
theorem builderWrite_any {w : World} {b : Nat} {st : St} (h : Rst w b st) (l : List UInt8) (hlen : st.out.length + l.length ≤ 140737488355328) :
    Calls Tryd.prog 62 #[.pointer (some ⟨b, 3, none⟩), .string (bs l)] w fun e w' =>
      (∃ v, e = .returned v) ∧ Rst w' b { st with out := st.out ++ l } ∧ Keep b w w' := by
  obtain ⟨i0, hi, hz0, hz1, hz2⟩ := info_parts (show (Tryd.prog.info? 5).map (fun i => (i.zero, i.size, i.bytes)) = some (some (.int .u8 0), 1, 1) by kernel_rfl)
  have HC := Lib.hid (copyCheck_any h)
  have hlt := Lib.hid h.lt
  go_enter Tryd.func62, Tryd.ntmps62
  go_wp2_with (go_at_call 84; refine (HC.out).mono ?_)
  rintro e w1 ⟨rfl, ⟨last, bv, hb, ho⟩, hb1⟩
  have c4 : w1.cell? ⟨b, 4, none⟩ = some bv := hb.cell 4
  go_wp2_with (at_builtin; refine Lib.wpList_append_own_string _ rfl _ _ 23 9 rfl (b + 1) 5 i0 Tryd.underlying23 Tryd.underlying9 hi hz0 hz1 hz2 _ _ _ rfl ho (bs l) rfl ?c3 ?c4 ?c5 ?_)
  case c3 => rw [bs_size]; unfold maxLen; omega
  case c4 => rw [bs_size]; omega
  case c5 => have := hb.lt; omega
  intro v' w2 hown' hgrow _
  have hb2 : Blk w2 b 125 (rstCells st last (.pointer (some ⟨b, 3, none⟩)) bv) := hb.grown hgrow (fun e => by
    rcases ho.2 with ⟨hv, _⟩ | ⟨g, cap, cur, hv, hbg, _⟩
    · rw [hv] at e; simp [Value.ownBlock] at e
    · rw [hv] at e; simp [Value.ownBlock] at e; omega)
  have d4 : w2.cell? ⟨b, 4, none⟩ = some bv := hb2.cell 4
  have f4 : w2.frozen? ⟨b, 4, none⟩ = false := hb2.frozen 4
  rw [bs_size, strCells_bs] at hown'
  obtain ⟨ao, n', cap, rfl⟩ : ∃ ao n' cap, v' = .slice ao n' cap := by
    rcases hown'.2 with ⟨hv, _⟩ | ⟨g, cap, cur, hv, _⟩
    · exact ⟨_, _, _, hv⟩
    · exact ⟨_, _, _, hv⟩
  go_wp2
  go_ret2
  refine ⟨⟨_, rfl⟩, ⟨last, _, _, hb2.set_ 4 _, .inr rfl, ?_⟩, ?_⟩
  · rw [byteCells_append, List.length_append]
    exact ownsRow_setCell_below hown' (Nat.lt_succ_self b) _
  · exact (hb1.grown hgrow (by have := hb.lt; omega) (fun k hk => ⟨by have := (owns_typed ho k hk).1; omega, (owns_typed ho k hk).2⟩)).setCell (p := ⟨b, 4, none⟩) rfl _
end Go.Proofs.YtokjbdofpdncdaaDoor
