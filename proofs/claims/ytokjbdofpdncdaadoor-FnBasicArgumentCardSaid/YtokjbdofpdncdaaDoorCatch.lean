/- The deferred function behind one part of the reader: it takes the reader's own panic for an error; it does nothing where there is none. -/
import Derived.Test.YtokjbdofpdncdaaDoorRst
import Derived.Test.YtokjbdofpdncdaaDoorErrOf
import Derived.WideLaws
namespace Go.Proofs.YtokjbdofpdncdaaDoor
open Go.RowKit
set_option linter.unusedVariables false
set_option maxRecDepth 100000

/-- The three result cells from block n on. -/
structure Res3 (w : World) (n : Nat) (a b : ByteArray) (e : Value) : Prop where
  r0 : Blk w n 9 #[.string a]
  r1 : Blk w (n + 1) 9 #[.string b]
  r2 : Blk w (n + 2) 69 #[e]

theorem Res3.store {w : World} {n : Nat} {a b : ByteArray} {e : Value} (h : Res3 w n a b e) (a' b' : ByteArray) (e' : Value) :
    Res3 (((w.setCell ⟨n, 0, none⟩ (.string a')).setCell ⟨n + 1, 0, none⟩ (.string b')).setCell ⟨n + 2, 0, none⟩ e') n a' b' e' := by
  have l0 : ¬ n = n + 1 := by omega
  have l1 : ¬ n = n + 2 := by omega
  have l2 : ¬ n + 1 = n := by omega
  have l3 : ¬ n + 1 = n + 2 := by omega
  have l4 : ¬ n + 2 = n := by omega
  have l5 : ¬ n + 2 = n + 1 := by omega
  exact ⟨((h.r0.set_ 0 _).far (p := ⟨n + 1, 0, none⟩) l0 _).far (p := ⟨n + 2, 0, none⟩) l1 _,
    ((h.r1.far (p := ⟨n, 0, none⟩) l2 _).set_ 0 _).far (p := ⟨n + 2, 0, none⟩) l3 _,
    ((h.r2.far (p := ⟨n, 0, none⟩) l4 _).far (p := ⟨n + 1, 0, none⟩) l5 _).set_ 0 _⟩
theorem Res3.drew {w : World} {n : Nat} {a b : ByteArray} {e : Value} (h : Res3 w n a b e) : Res3 w.drew n a b e := ⟨h.r0, h.r1, h.r2⟩
theorem Res3.below {n : Nat} {a w : World} (h : Below n a w) (x y z : Value) :
    Below n a (((w.setCell ⟨n, 0, none⟩ x).setCell ⟨n + 1, 0, none⟩ y).setCell ⟨n + 2, 0, none⟩ z) :=
  ((h.setCell (Nat.le_refl _) _).setCell (p := ⟨n + 1, 0, none⟩) (Nat.le_succ n) _).setCell (p := ⟨n + 2, 0, none⟩) (Nat.le_add_right n 2) _
theorem Res3.far {w : World} {n : Nat} {a b : ByteArray} {e : Value} (h : Res3 w n a b e) {p : Addr} (hp : p.block < n) (u : Value) : Res3 (w.setCell p u) n a b e :=
  ⟨h.r0.far (by omega) u, h.r1.far (by omega) u, h.r2.far (by omega) u⟩
theorem Res3.keep {w w' : World} {n B : Nat} {a b : ByteArray} {e : Value} (h : Res3 w n a b e) (hb : Below B w w') (hn : n + 2 < B) : Res3 w' n a b e :=
  ⟨h.r0.below hb (by omega), h.r1.below hb (by omega), h.r2.below hb hn⟩

theorem catch_idle (n : Nat) (w : World) :
    CallsD Tryd.prog 79 #[.pointer (some ⟨n, 0, none⟩), .pointer (some ⟨n + 1, 0, none⟩), .pointer (some ⟨n + 2, 0, none⟩)] .returning w fun e u' w' =>
      e = .returned (.tuple #[]) ∧ u' = .returning ∧ w = w' := by
  refine callsD_of_wpS Tryd.func79 rfl fun c₀ cs hu => ?_
  simp only [Tryd.ntmps79, List.size_toArray, List.length_cons, List.length_nil, Nat.reduceAdd, Nat.reduceSub, Array.replicate_succ, Array.replicate_zero, List.push_toArray, List.append_toArray, List.nil_append, List.cons_append]
  apply wpS_seq
  apply wpS_region
  simp [wpOpsS, go_sem, recoverD, hu, Exit.thenS]
  have hu' := Lib.hid hu
  clear hu
  refine wpS_of_wp ?_
  go_wp2
  refine ⟨rfl, .returning, ?_, _, results_none rfl _ _ _, rfl, rfl, rfl⟩
  rw [← hu'.out]

/-- The reader's own panic. -/

theorem catch_panic {n : Nat} {w : World} {x y : ByteArray} {z : Value} (h : Res3 w n x y z) (m : ByteArray) (o : Int) :
    CallsD Tryd.prog 79 #[.pointer (some ⟨n, 0, none⟩), .pointer (some ⟨n + 1, 0, none⟩), .pointer (some ⟨n + 2, 0, none⟩)] (.panicking [{ v := errOf m o, recovered := false }]) w fun e u' w' =>
      e = .returned (.tuple #[]) ∧ u' = .panicking [{ v := errOf m o, recovered := true }] ∧ Res3 w' n (bs []) (bs []) (errOf m o) ∧ Below n w w' := by
  unfold errOf
  refine callsD_of_wpS Tryd.func79 rfl fun c₀ cs hu => ?_
  simp only [Tryd.ntmps79, List.size_toArray, List.length_cons, List.length_nil, Nat.reduceAdd, Nat.reduceSub, Array.replicate_succ, Array.replicate_zero, List.push_toArray, List.append_toArray, List.nil_append, List.cons_append]
  apply wpS_seq
  apply wpS_region
  simp [wpOpsS, go_sem, recoverD, hu, Exit.thenS]
  have hu' := Lib.hid hu
  clear hu
  have hta : ∀ (v : Value) (W : World), (Instr.typeAssert (.iface 122 v) 20 122 true).run Tryd.prog W = .ok (.tuple #[v, .bool true]) W := fun v W => by rfl
  refine wpS_of_wp ?_
  go_wp2
  have R1 : Res3 (w.alloc (.cells #[.string m, .int .i64 o] 122)) n x y z := ⟨h.r0.alloc _, h.r1.alloc _, h.r2.alloc _⟩
  have a0 := R1.r0.cell 0
  have a1 := R1.r1.cell 0
  have a2 := R1.r2.cell 0
  simp only [List.getElem?_toArray, List.getElem?_cons_zero] at a0 a1 a2
  have b0 := R1.r0.frozen 0
  have b1 := R1.r1.frozen 0
  have b2 := R1.r2.frozen 0
  have hlt := h.r2.lt
  have n0 : ¬ n = w.heap.size := by omega
  have n1 : ¬ n + 1 = w.heap.size := by omega
  have n2 : ¬ n + 2 = w.heap.size := by omega
  have m0 : ¬ w.heap.size = n := by omega
  have m1 : ¬ w.heap.size = n + 1 := by omega
  have m2 : ¬ w.heap.size = n + 2 := by omega
  have hR := Lib.hid R1
  clear R1 h
  go_region
  all_goals go_wp2
  all_goals
    refine ⟨rfl, _, rfl, _, results_none rfl _ _ _, rfl, rfl, (hR.out.store _ _ _).drew, ?_⟩
    exact (Res3.below (Below.alloc (Below.refl n w) (by omega) _) _ _ _).drew
end Go.Proofs.YtokjbdofpdncdaaDoor
