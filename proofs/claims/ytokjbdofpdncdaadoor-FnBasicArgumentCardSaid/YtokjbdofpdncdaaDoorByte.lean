/- One byte written by the reader, where no length is asked. -/
import Derived.Test.YtokjbdofpdncdaaDoorWrite
import Derived.OwnWalk
namespace Go.Proofs.YtokjbdofpdncdaaDoor
open Go.RowKit
set_option linter.unusedVariables false
set_option maxRecDepth 100000

set_option maxHeartbeats 2000000 in
theorem builderByte_any {w : World} {b : Nat} {st : St} (h : Rst w b st) (c : UInt8) (hlen : st.out.length + 1 ≤ 140737488355328) :
    Calls Tryd.prog 64 #[.pointer (some ⟨b, 3, none⟩), .int .u8 (c.toNat : Int)] w fun e w' =>
      (∃ v, e = .returned v) ∧ Rst w' b { st with out := st.out ++ [c] } ∧ Keep b w w' := by
  obtain ⟨i0, hi, hz0, hz1, hz2⟩ := info_parts (show (Tryd.prog.info? 5).map (fun i => (i.zero, i.size, i.bytes)) = some (some (.int .u8 0), 1, 1) by kernel_rfl)
  have HC := Lib.hid (copyCheck_any h)
  go_enter Tryd.func64, Tryd.ntmps64
  go_wp2_with (go_at_call 84; refine (HC.out).mono ?_)
  rintro e w1 ⟨rfl, ⟨last, bv, hb, ho⟩, hb1⟩
  have c4 : w1.cell? ⟨b, 4, none⟩ = some bv := hb.cell 4
  have hblt := hb.lt
  go_wp2_with (at_builtin; refine wpList_append_own _ rfl _ _ 23 rfl (b + 1) 5 i0 (.int .u8 0) 1 1 Tryd.underlying23 hi hz0 hz1 hz2 rfl (by decide) _ _ _ rfl (ho.alloc _) ⟨w1.heap.size, 0, none⟩ 1 1 [.int .u8 (c.toNat : Int)] rfl rfl ?c1 ?c2 ?c3 ?c4 ?c5 ?_)
  case c1 =>
    intro j u hj
    match j, hj with
    | 0, hj => simp at hj; subst hj; simp [Addr.add]
  case c2 => intro u hu; simp at hu; subst hu; rfl
  case c3 => unfold maxLen; omega
  case c4 => omega
  case c5 => simp; omega
  intro v' w2 hown' hgrow _
  have hb2 : Blk w2 b 125 (rstCells st last (.pointer (some ⟨b, 3, none⟩)) bv) := (hb.alloc _).grown hgrow (fun e => by
    rcases ho.2 with ⟨hv, _⟩ | ⟨g, cap, cur, hv, hbg, _⟩
    · rw [hv] at e; simp [Value.ownBlock] at e
    · rw [hv] at e; simp [Value.ownBlock] at e; omega)
  have d4 : w2.cell? ⟨b, 4, none⟩ = some bv := hb2.cell 4
  have f4 : w2.frozen? ⟨b, 4, none⟩ = false := hb2.frozen 4
  obtain ⟨ao, n', cap, rfl⟩ : ∃ ao n' cap, v' = .slice ao n' cap := by
    rcases hown'.2 with ⟨hv, _⟩ | ⟨g, cap, cur, hv, _⟩
    · exact ⟨_, _, _, hv⟩
    · exact ⟨_, _, _, hv⟩
  go_wp2
  go_ret
  refine ⟨⟨_, rfl⟩, ⟨last, _, _, hb2.set_ 4 _, .inr rfl, ?_⟩, ?_⟩
  · rw [byteCells_append, List.length_append]
    exact ownsRow_setCell_below hown' (Nat.lt_succ_self b) _
  · exact ((hb1.alloc (by omega) _).grown hgrow (by simp; omega) (fun k hk => ⟨by have := (owns_typed ho k hk).1; omega, (owns_typed (ho.alloc (.cells #[.int .u8 (c.toNat : Int)] 5)) k hk).2⟩)).setCell (p := ⟨b, 4, none⟩) rfl _

theorem byte_skip {w : World} {b : Nat} {st : St} (h : Rst w b st) (hs : st.skip = true) (c : Int) :
    Calls Tryd.prog 95 #[.pointer (some ⟨b, 0, none⟩), .int .u8 c] w (Done b w (.tuple #[]) st) := by
  have c5 : w.cell? ⟨b, 5, none⟩ = some (.bool true) := by rw [h.skip, hs]
  go_enter Tryd.func95, Tryd.ntmps95
  go_wp2
  go_end0
  exact ⟨rfl, ⟨_, h⟩, Keep.refl b _⟩

theorem byte_some {w : World} {b : Nat} {st : St} (c : UInt8) (h : Rst w b st) (hs : st.skip = false) (hm : st.max = 0)
    (HW : Calls Tryd.prog 64 #[.pointer (some ⟨b, 3, none⟩), .int .u8 (c.toNat : Int)] (w.setCell ⟨b, 7, none⟩ (.int .u8 (c.toNat : Int))).drew fun e w' =>
      (∃ v, e = .returned v) ∧ Rst w' b { st with out := st.out ++ [c] } ∧ Keep b (w.setCell ⟨b, 7, none⟩ (.int .u8 (c.toNat : Int))).drew w') :
    Calls Tryd.prog 95 #[.pointer (some ⟨b, 0, none⟩), .int .u8 (c.toNat : Int)] w (Done b w (.tuple #[]) { st with out := st.out ++ [c] }) := by
  have c5 : w.cell? ⟨b, 5, none⟩ = some (.bool false) := by rw [h.skip, hs]
  have c9 : w.drew.cell? ⟨b, 9, none⟩ = some (.int .i64 0) := by rw [h.drew.max, hm]
  obtain ⟨last, c7⟩ : ∃ last, w.drew.cell? ⟨b, 7, none⟩ = some (.int .u8 last) := by
    obtain ⟨last, _, _, hb, _⟩ := h.drew
    exact ⟨last, hb.cell 7⟩
  have f7 : w.drew.frozen? ⟨b, 7, none⟩ = false := h.drew.free 7
  have HW' := Lib.hid HW
  clear h hs hm HW
  go_enter Tryd.func95, Tryd.ntmps95
  go_wp2
  go_region
  all_goals
    go_wp2_with (go_at_call 64; refine (HW'.out).mono ?_; rintro e w2 ⟨⟨v, rfl⟩, hr, hb2⟩)
    go_end0
    exact ⟨rfl, ⟨_, hr⟩, (((Keep.refl b w).setCell (p := ⟨b, 7, none⟩) rfl _).drew).trans hb2⟩

theorem byte_any {w : World} {b : Nat} {st : St} (h : Rst w b st) (hm : st.max = 0) (c : UInt8) (hlen : st.out.length + 1 ≤ 140737488355328) :
    Calls Tryd.prog 95 #[.pointer (some ⟨b, 0, none⟩), .int .u8 (c.toNat : Int)] w (Done b w (.tuple #[]) (st.put [c])) := by
  by_cases hs : st.skip = true
  · rw [St.put_skip hs]
    exact byte_skip h hs _
  · have hs : st.skip = false := by simpa using hs
    rw [St.put_free hs]
    exact byte_some c h hs hm (builderByte_any (h.setLast (c.toNat : Int)).drew c hlen)
end Go.Proofs.YtokjbdofpdncdaaDoor
