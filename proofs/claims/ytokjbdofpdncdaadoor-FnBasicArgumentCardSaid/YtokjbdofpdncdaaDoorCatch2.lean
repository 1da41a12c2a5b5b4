/- The deferred function behind the reader of whole names: it takes the reader's own panic for an error; it does nothing where there is none. -/
import Derived.Test.YtokjbdofpdncdaaDoorRst
import Derived.Test.YtokjbdofpdncdaaDoorErrOf
import Derived.WideLaws
namespace Go.Proofs.YtokjbdofpdncdaaDoor
open Go.RowKit
set_option linter.unusedVariables false
set_option maxRecDepth 100000

/-- The two result cells from block n on. -/
structure Res2 (w : World) (n : Nat) (a : ByteArray) (e : Value) : Prop where
  r0 : Blk w n 9 #[.string a]
  r1 : Blk w (n + 1) 69 #[e]

theorem Res2.store {w : World} {n : Nat} {a : ByteArray} {e : Value} (h : Res2 w n a e) (a' : ByteArray) (e' : Value) :
    Res2 ((w.setCell ⟨n, 0, none⟩ (.string a')).setCell ⟨n + 1, 0, none⟩ e') n a' e' := by
  have l0 : ¬ n = n + 1 := by omega
  have l2 : ¬ n + 1 = n := by omega
  exact ⟨(h.r0.set_ 0 _).far (p := ⟨n + 1, 0, none⟩) l0 _, (h.r1.far (p := ⟨n, 0, none⟩) l2 _).set_ 0 _⟩
theorem Res2.drew {w : World} {n : Nat} {a : ByteArray} {e : Value} (h : Res2 w n a e) : Res2 w.drew n a e := ⟨h.r0, h.r1⟩
theorem Res2.below {n : Nat} {a w : World} (h : Below n a w) (x z : Value) :
    Below n a ((w.setCell ⟨n, 0, none⟩ x).setCell ⟨n + 1, 0, none⟩ z) :=
  (h.setCell (Nat.le_refl _) _).setCell (p := ⟨n + 1, 0, none⟩) (Nat.le_succ n) _
theorem Res2.keep {w w' : World} {n B : Nat} {a : ByteArray} {e : Value} (h : Res2 w n a e) (hb : Below B w w') (hn : n + 1 < B) : Res2 w' n a e :=
  ⟨h.r0.below hb (by omega), h.r1.below hb hn⟩

theorem catch2_idle (n : Nat) (w : World) :
    CallsD Tryd.prog 104 #[.pointer (some ⟨n, 0, none⟩), .pointer (some ⟨n + 1, 0, none⟩)] .returning w fun e u' w' =>
      e = .returned (.tuple #[]) ∧ u' = .returning ∧ w = w' := by
  refine callsD_of_wpS Tryd.func104 rfl fun c₀ cs hu => ?_
  simp only [Tryd.ntmps104, List.size_toArray, List.length_cons, List.length_nil, Nat.reduceAdd, Nat.reduceSub, Array.replicate_succ, Array.replicate_zero, List.push_toArray, List.append_toArray, List.nil_append, List.cons_append]
  apply wpS_seq
  apply wpS_region
  simp [wpOpsS, go_sem, recoverD, hu, Exit.thenS]
  have hu' := Lib.hid hu
  clear hu
  refine wpS_of_wp ?_
  go_wp2
  refine ⟨rfl, .returning, ?_, _, results_none rfl _ _ _, rfl, rfl, rfl⟩
  rw [← hu'.out]

/-- The reader's own panic. -/

theorem catch2_panic {n : Nat} {w : World} {x : ByteArray} {z : Value} (h : Res2 w n x z) (m : ByteArray) (o : Int) :
    CallsD Tryd.prog 104 #[.pointer (some ⟨n, 0, none⟩), .pointer (some ⟨n + 1, 0, none⟩)] (.panicking [{ v := errOf m o, recovered := false }]) w fun e u' w' =>
      e = .returned (.tuple #[]) ∧ u' = .panicking [{ v := errOf m o, recovered := true }] ∧ Res2 w' n (bs []) (errOf m o) ∧ Below n w w' := by
  unfold errOf
  refine callsD_of_wpS Tryd.func104 rfl fun c₀ cs hu => ?_
  simp only [Tryd.ntmps104, List.size_toArray, List.length_cons, List.length_nil, Nat.reduceAdd, Nat.reduceSub, Array.replicate_succ, Array.replicate_zero, List.push_toArray, List.append_toArray, List.nil_append, List.cons_append]
  apply wpS_seq
  apply wpS_region
  simp [wpOpsS, go_sem, recoverD, hu, Exit.thenS]
  have hu' := Lib.hid hu
  clear hu
  have hta : ∀ (v : Value) (W : World), (Instr.typeAssert (.iface 122 v) 20 122 true).run Tryd.prog W = .ok (.tuple #[v, .bool true]) W := fun v W => by rfl
  refine wpS_of_wp ?_
  have R1 := h.store (bs []) (.iface 122 (.agg #[.string m, .int .i64 o]))
  have a0 := h.r0.cell 0
  have a1 := h.r1.cell 0
  simp only [List.getElem?_toArray, List.getElem?_cons_zero] at a0 a1
  have b0 := h.r0.frozen 0
  have b1 := h.r1.frozen 0
  have hlt := h.r1.lt
  have hlt0 := h.r0.lt
  have n0 : ¬ n = w.heap.size := by omega
  have n1 : ¬ n + 1 = w.heap.size := by omega
  have m0 : ¬ w.heap.size = n := by omega
  have m1 : ¬ w.heap.size = n + 1 := by omega
  have hR := Lib.hid R1
  clear R1 h
  go_wp2
  refine ⟨rfl, _, rfl, _, results_none rfl _ _ _, rfl, rfl, ⟨hR.out.r0.alloc _, hR.out.r1.alloc _⟩, ?_⟩
  exact (Res2.below (Below.refl n w) _ _).alloc (by rw [World.size_setCell, World.size_setCell]; omega) _
end Go.Proofs.YtokjbdofpdncdaaDoor
