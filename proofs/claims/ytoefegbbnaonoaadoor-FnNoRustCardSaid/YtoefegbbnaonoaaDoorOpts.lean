/- The list of options, whatever they say. -/
import Derived.Test.YtoefegbbnaonoaaDoorMax
import Derived.Deep.DeepCutAuto
namespace Go.Proofs.YtoefegbbnaonoaaDoor
open Go.RowKit Go.Lib Go.WideShapes
set_option linter.unusedVariables false
set_option maxRecDepth 100000
attribute [local go_sem] bs_size bs_toList

def optCells (b : Nat → Bool) (p : Nat) : Array Value := #[.bool (b 0), .bool (b 1), .bool (b 2), .bool (b 3), .bool (b 4), .bool (b 5), .bool (b 6), .int .i64 (p : Int)]
def OptRel (w : World) (b : Nat → Bool) (p k : Nat) (v : Value) (wc : World) : Prop :=
  (∃ n xs, n ≤ k ∧ wc.ownsRow (w.heap.size + 1) 61 1 v n xs) ∧ Blk wc w.heap.size 29 (optCells b p) ∧ Below w.heap.size w wc
theorem OptRel.up {w wc : World} {b : Nat → Bool} {p k j : Nat} {v : Value} (h : OptRel w b p k v wc) (hk : k ≤ j) : OptRel w b p j v wc := by
  obtain ⟨⟨n, xs, h1, h2⟩, h3, h4⟩ := h
  exact ⟨⟨n, xs, by omega, h2⟩, h3, h4⟩
theorem OptRel.app {w wc w5 : World} {b : Nat → Bool} {p k n : Nat} {v v' : Value} {xs ys : List Value} {ob : Obj} (hn : n ≤ k) (ho : wc.ownsRow (w.heap.size + 1) 61 1 v n xs) (hB : Blk wc w.heap.size 29 (optCells b p)) (hb : Below w.heap.size w wc)
    (h1 : w5.ownsRow (w.heap.size + 1) 61 1 v' (n + 1) ys) (hg : (wc.alloc ob).grownBy w5 v.ownBlock) : OptRel w b p (k + 1) v' w5 := by
  refine ⟨⟨n + 1, ys, by omega, h1⟩, ?_, (hb.alloc hb.size _).grown hg (by simp; exact Nat.le_succ_of_le hb.size) (fun j hj => Nat.le_of_succ_le (ho.lt j hj).1)⟩
  have hlt := hB.lt
  show w5.heap[w.heap.size]? = _
  rw [hg.block w.heap.size (by simp; omega) (fun e => by have := (ho.lt _ e.symm).1; omega)]
  exact hB.alloc _

theorem own_slice {w : World} {base : Nat} {e : TypeId} {size : Nat} {v : Value} {n : Nat} {xs : List Value} (h : w.ownsRow base e size v n xs) : ∃ A m c, v = .slice A m c := by
  rcases h.2 with ⟨h, _⟩ | ⟨g, cap, cur, h, _⟩
  · exact ⟨_, _, _, h⟩
  · exact ⟨_, _, _, h⟩

set_option maxHeartbeats 4000000 in
theorem list_any (w : World) (b : Nat → Bool) (p : Nat) (hp : p ≤ 30) :
    Calls Tryd.prog 26 #[.agg #[.bool (b 0), .bool (b 1), .bool (b 2), .bool (b 3), .bool (b 4), .bool (b 5), .bool (b 6), .int .i64 (p : Int)]] w fun e w' => (∃ A n c, e = .returned (.slice A n c)) ∧ Below w.heap.size w w' := by
  obtain ⟨i0, hi, hz0, hz1, hz2⟩ := info_parts (show (Tryd.prog.info? 61).map (fun i => (i.zero, i.size, i.bytes)) = some (some (.int .i64 0), 1, 8) by kernel_rfl)
  have HM := Lib.hid (fun W h1 => maxLength_any W p h1 hp)
  have H0 := Lib.hid (show OptRel w b p 0 (.slice none 0 0) (w.alloc (.cells (optCells b p) 29)) from ⟨⟨0, [], Nat.le_refl _, World.ownsRow_nil _ _ _ _⟩, Blk.new _ _ _, (Below.refl _ _).alloc (Nat.le_refl _) _⟩)
  go_enter Tryd.func26, Tryd.ntmps26
  go_upto_region 2 with fail
  go_cut [0, 3, 5] (fun z v t wc => t = .bool (b 0) ∧ OptRel w b p 0 v wc)
  case first =>
    go_wp2_with fail
    go_meet
    exact ⟨rfl, H0.out⟩
  case rest =>
  obtain ⟨rfl, hrel⟩ := hcut
  replace hrel := Lib.hid hrel
  go_upto_if 5 with fail
  replace hrel := hrel.out
  go_cut [3] (fun v wc => OptRel w b p 1 v wc)
  case first =>
    obtain ⟨⟨n, xs, hn, ho⟩, hB, hb⟩ := hrel
    have hr0 := Lib.hid (OptRel.up (j := 1) ⟨⟨n, xs, hn, ho⟩, hB, hb⟩ (by omega))
    go_wp2_with (first | (at_builtin; refine wpList_append_own _ rfl _ _ 53 rfl (w.heap.size + 1) 61 i0 (.int .i64 0) 1 8 Tryd.underlying53 hi hz0 hz1 hz2 rfl (by decide) _ n xs rfl (ho.alloc _) ⟨_, 0, none⟩ 1 1 [.int .i64 0] rfl rfl ?c1 ?c2 ?c3 ?c4 ?c5 ?_))
    case c1 =>
      intro j u hj
      rw [add_noneM, Nat.zero_add]
      exact (((Blk.new _ _ #[Value.int .i64 0]).at2 (by simp)).cell j).trans (by simpa using hj)
    case c2 => intro u hu; simp at hu; subst hu; rfl
    case c3 => unfold maxLen; omega
    case c4 => omega
    case c5 => have := hB.lt; simp at this ⊢; try omega
    · intro v' w5 hown' hgrow hnil
      have hr := OptRel.app hn ho hB hb hown' hgrow
      clear hown' hgrow hnil ho hB hb
      go_wp2_with fail
      go_meet
      exact hr
    · go_meet
      exact hr0.out
  case rest =>
  have hrel := hcut
  clear hcut
  obtain ⟨⟨n, xs, hn, ho⟩, hB, hb⟩ := hrel
  have d := hB.cell 1
  simp only [optCells, List.getElem?_toArray, List.getElem?_cons_zero, List.getElem?_cons_succ] at d
  have hrel := (show OptRel w b p 1 _ _ from ⟨⟨n, xs, hn, ho⟩, hB, hb⟩)
  replace hrel := Lib.hid hrel
  clear ho hB hb
  go_upto_if 10 with fail
  replace hrel := hrel.out
  go_cut [3] (fun v wc => OptRel w b p 2 v wc)
  case first =>
    obtain ⟨⟨n, xs, hn, ho⟩, hB, hb⟩ := hrel
    have hr0 := Lib.hid (OptRel.up (j := 2) ⟨⟨n, xs, hn, ho⟩, hB, hb⟩ (by omega))
    go_wp2_with (first | (at_builtin; refine wpList_append_own _ rfl _ _ 53 rfl (w.heap.size + 1) 61 i0 (.int .i64 0) 1 8 Tryd.underlying53 hi hz0 hz1 hz2 rfl (by decide) _ n xs rfl (ho.alloc _) ⟨_, 0, none⟩ 1 1 [.int .i64 1] rfl rfl ?c1 ?c2 ?c3 ?c4 ?c5 ?_))
    case c1 =>
      intro j u hj
      rw [add_noneM, Nat.zero_add]
      exact (((Blk.new _ _ #[Value.int .i64 1]).at2 (by simp)).cell j).trans (by simpa using hj)
    case c2 => intro u hu; simp at hu; subst hu; rfl
    case c3 => unfold maxLen; omega
    case c4 => omega
    case c5 => have := hB.lt; simp at this ⊢; try omega
    · intro v' w5 hown' hgrow hnil
      have hr := OptRel.app hn ho hB hb hown' hgrow
      clear hown' hgrow hnil ho hB hb
      go_wp2_with fail
      go_meet
      exact hr
    · go_meet
      exact hr0.out
  case rest =>
  have hrel := hcut
  clear hcut
  obtain ⟨⟨n, xs, hn, ho⟩, hB, hb⟩ := hrel
  have d := hB.cell 2
  simp only [optCells, List.getElem?_toArray, List.getElem?_cons_zero, List.getElem?_cons_succ] at d
  have hrel := (show OptRel w b p 2 _ _ from ⟨⟨n, xs, hn, ho⟩, hB, hb⟩)
  replace hrel := Lib.hid hrel
  clear ho hB hb
  go_upto_if 15 with fail
  replace hrel := hrel.out
  go_cut [3] (fun v wc => OptRel w b p 3 v wc)
  case first =>
    obtain ⟨⟨n, xs, hn, ho⟩, hB, hb⟩ := hrel
    have hr0 := Lib.hid (OptRel.up (j := 3) ⟨⟨n, xs, hn, ho⟩, hB, hb⟩ (by omega))
    go_wp2_with (first | (at_builtin; refine wpList_append_own _ rfl _ _ 53 rfl (w.heap.size + 1) 61 i0 (.int .i64 0) 1 8 Tryd.underlying53 hi hz0 hz1 hz2 rfl (by decide) _ n xs rfl (ho.alloc _) ⟨_, 0, none⟩ 1 1 [.int .i64 2] rfl rfl ?c1 ?c2 ?c3 ?c4 ?c5 ?_))
    case c1 =>
      intro j u hj
      rw [add_noneM, Nat.zero_add]
      exact (((Blk.new _ _ #[Value.int .i64 2]).at2 (by simp)).cell j).trans (by simpa using hj)
    case c2 => intro u hu; simp at hu; subst hu; rfl
    case c3 => unfold maxLen; omega
    case c4 => omega
    case c5 => have := hB.lt; simp at this ⊢; try omega
    · intro v' w5 hown' hgrow hnil
      have hr := OptRel.app hn ho hB hb hown' hgrow
      clear hown' hgrow hnil ho hB hb
      go_wp2_with fail
      go_meet
      exact hr
    · go_meet
      exact hr0.out
  case rest =>
  have hrel := hcut
  clear hcut
  obtain ⟨⟨n, xs, hn, ho⟩, hB, hb⟩ := hrel
  have d := hB.cell 3
  simp only [optCells, List.getElem?_toArray, List.getElem?_cons_zero, List.getElem?_cons_succ] at d
  have hrel := (show OptRel w b p 3 _ _ from ⟨⟨n, xs, hn, ho⟩, hB, hb⟩)
  replace hrel := Lib.hid hrel
  clear ho hB hb
  go_upto_if 20 with fail
  replace hrel := hrel.out
  go_cut [3] (fun v wc => OptRel w b p 4 v wc)
  case first =>
    obtain ⟨⟨n, xs, hn, ho⟩, hB, hb⟩ := hrel
    have hr0 := Lib.hid (OptRel.up (j := 4) ⟨⟨n, xs, hn, ho⟩, hB, hb⟩ (by omega))
    go_wp2_with (first | (at_builtin; refine wpList_append_own _ rfl _ _ 53 rfl (w.heap.size + 1) 61 i0 (.int .i64 0) 1 8 Tryd.underlying53 hi hz0 hz1 hz2 rfl (by decide) _ n xs rfl (ho.alloc _) ⟨_, 0, none⟩ 1 1 [.int .i64 3] rfl rfl ?c1 ?c2 ?c3 ?c4 ?c5 ?_))
    case c1 =>
      intro j u hj
      rw [add_noneM, Nat.zero_add]
      exact (((Blk.new _ _ #[Value.int .i64 3]).at2 (by simp)).cell j).trans (by simpa using hj)
    case c2 => intro u hu; simp at hu; subst hu; rfl
    case c3 => unfold maxLen; omega
    case c4 => omega
    case c5 => have := hB.lt; simp at this ⊢; try omega
    · intro v' w5 hown' hgrow hnil
      have hr := OptRel.app hn ho hB hb hown' hgrow
      clear hown' hgrow hnil ho hB hb
      go_wp2_with fail
      go_meet
      exact hr
    · go_meet
      exact hr0.out
  case rest =>
  have hrel := hcut
  clear hcut
  obtain ⟨⟨n, xs, hn, ho⟩, hB, hb⟩ := hrel
  have d := hB.cell 4
  simp only [optCells, List.getElem?_toArray, List.getElem?_cons_zero, List.getElem?_cons_succ] at d
  have hrel := (show OptRel w b p 4 _ _ from ⟨⟨n, xs, hn, ho⟩, hB, hb⟩)
  replace hrel := Lib.hid hrel
  clear ho hB hb
  go_upto_if 25 with fail
  replace hrel := hrel.out
  go_cut [3] (fun v wc => OptRel w b p 5 v wc)
  case first =>
    obtain ⟨⟨n, xs, hn, ho⟩, hB, hb⟩ := hrel
    have hr0 := Lib.hid (OptRel.up (j := 5) ⟨⟨n, xs, hn, ho⟩, hB, hb⟩ (by omega))
    go_wp2_with (first | (at_builtin; refine wpList_append_own _ rfl _ _ 53 rfl (w.heap.size + 1) 61 i0 (.int .i64 0) 1 8 Tryd.underlying53 hi hz0 hz1 hz2 rfl (by decide) _ n xs rfl (ho.alloc _) ⟨_, 0, none⟩ 1 1 [.int .i64 4] rfl rfl ?c1 ?c2 ?c3 ?c4 ?c5 ?_))
    case c1 =>
      intro j u hj
      rw [add_noneM, Nat.zero_add]
      exact (((Blk.new _ _ #[Value.int .i64 4]).at2 (by simp)).cell j).trans (by simpa using hj)
    case c2 => intro u hu; simp at hu; subst hu; rfl
    case c3 => unfold maxLen; omega
    case c4 => omega
    case c5 => have := hB.lt; simp at this ⊢; try omega
    · intro v' w5 hown' hgrow hnil
      have hr := OptRel.app hn ho hB hb hown' hgrow
      clear hown' hgrow hnil ho hB hb
      go_wp2_with fail
      go_meet
      exact hr
    · go_meet
      exact hr0.out
  case rest =>
  have hrel := hcut
  clear hcut
  obtain ⟨⟨n, xs, hn, ho⟩, hB, hb⟩ := hrel
  have d := hB.cell 5
  simp only [optCells, List.getElem?_toArray, List.getElem?_cons_zero, List.getElem?_cons_succ] at d
  have hrel := (show OptRel w b p 5 _ _ from ⟨⟨n, xs, hn, ho⟩, hB, hb⟩)
  replace hrel := Lib.hid hrel
  clear ho hB hb
  go_upto_if 30 with fail
  replace hrel := hrel.out
  go_cut [3] (fun v wc => OptRel w b p 6 v wc)
  case first =>
    obtain ⟨⟨n, xs, hn, ho⟩, hB, hb⟩ := hrel
    have hr0 := Lib.hid (OptRel.up (j := 6) ⟨⟨n, xs, hn, ho⟩, hB, hb⟩ (by omega))
    go_wp2_with (first | (at_builtin; refine wpList_append_own _ rfl _ _ 53 rfl (w.heap.size + 1) 61 i0 (.int .i64 0) 1 8 Tryd.underlying53 hi hz0 hz1 hz2 rfl (by decide) _ n xs rfl (ho.alloc _) ⟨_, 0, none⟩ 1 1 [.int .i64 5] rfl rfl ?c1 ?c2 ?c3 ?c4 ?c5 ?_))
    case c1 =>
      intro j u hj
      rw [add_noneM, Nat.zero_add]
      exact (((Blk.new _ _ #[Value.int .i64 5]).at2 (by simp)).cell j).trans (by simpa using hj)
    case c2 => intro u hu; simp at hu; subst hu; rfl
    case c3 => unfold maxLen; omega
    case c4 => omega
    case c5 => have := hB.lt; simp at this ⊢; try omega
    · intro v' w5 hown' hgrow hnil
      have hr := OptRel.app hn ho hB hb hown' hgrow
      clear hown' hgrow hnil ho hB hb
      go_wp2_with fail
      go_meet
      exact hr
    · go_meet
      exact hr0.out
  case rest =>
  have hrel := hcut
  clear hcut
  obtain ⟨⟨n, xs, hn, ho⟩, hB, hb⟩ := hrel
  have d := hB.cell 6
  simp only [optCells, List.getElem?_toArray, List.getElem?_cons_zero, List.getElem?_cons_succ] at d
  have hrel := (show OptRel w b p 6 _ _ from ⟨⟨n, xs, hn, ho⟩, hB, hb⟩)
  replace hrel := Lib.hid hrel
  clear ho hB hb
  go_upto_if 35 with fail
  replace hrel := hrel.out
  go_cut [3] (fun v wc => OptRel w b p 7 v wc)
  case first =>
    obtain ⟨⟨n, xs, hn, ho⟩, hB, hb⟩ := hrel
    have hr0 := Lib.hid (OptRel.up (j := 7) ⟨⟨n, xs, hn, ho⟩, hB, hb⟩ (by omega))
    go_wp2_with (first | (at_builtin; refine wpList_append_own _ rfl _ _ 53 rfl (w.heap.size + 1) 61 i0 (.int .i64 0) 1 8 Tryd.underlying53 hi hz0 hz1 hz2 rfl (by decide) _ n xs rfl (ho.alloc _) ⟨_, 0, none⟩ 1 1 [.int .i64 6] rfl rfl ?c1 ?c2 ?c3 ?c4 ?c5 ?_))
    case c1 =>
      intro j u hj
      rw [add_noneM, Nat.zero_add]
      exact (((Blk.new _ _ #[Value.int .i64 6]).at2 (by simp)).cell j).trans (by simpa using hj)
    case c2 => intro u hu; simp at hu; subst hu; rfl
    case c3 => unfold maxLen; omega
    case c4 => omega
    case c5 => have := hB.lt; simp at this ⊢; try omega
    · intro v' w5 hown' hgrow hnil
      have hr := OptRel.app hn ho hB hb hown' hgrow
      clear hown' hgrow hnil ho hB hb
      go_wp2_with fail
      go_meet
      exact hr
    · go_meet
      exact hr0.out
  case rest =>
  have hrel := hcut
  clear hcut
  obtain ⟨⟨n, xs, hn, ho⟩, hB, hb⟩ := hrel
  have d := hB.cell 7
  simp only [optCells, List.getElem?_toArray, List.getElem?_cons_zero, List.getElem?_cons_succ] at d
  have hrel := (show OptRel w b p 7 _ _ from ⟨⟨n, xs, hn, ho⟩, hB, hb⟩)
  replace hrel := Lib.hid hrel
  clear ho hB hb
  go_upto_if 41 with fail
  replace hrel := hrel.out
  go_cut [3] (fun v wc => OptRel w b p 8 v wc)
  case first =>
    obtain ⟨⟨n, xs, hn, ho⟩, hB, hb⟩ := hrel
    have hr0 := Lib.hid (OptRel.up (j := 8) ⟨⟨n, xs, hn, ho⟩, hB, hb⟩ (by omega))
    have d := hB.cell 7
    simp only [optCells, List.getElem?_toArray, List.getElem?_cons_zero, List.getElem?_cons_succ] at d
    go_wp2_with (first | (go_at_call 34; refine (HM.out _ (by simp_all; omega)).mono ?_; rintro e w2 ⟨rfl, rfl⟩) | (at_builtin; refine wpList_append_own _ rfl _ _ 53 rfl (w.heap.size + 1) 61 i0 (.int .i64 0) 1 8 Tryd.underlying53 hi hz0 hz1 hz2 rfl (by decide) _ n xs rfl (ho.alloc _) ⟨_, 0, none⟩ 1 1 [.int .i64 ((p : Int) * 65536)] rfl rfl ?c1 ?c2 ?c3 ?c4 ?c5 ?_))
    case c1 =>
      intro j u hj
      rw [add_noneM, Nat.zero_add]
      exact (((Blk.new _ _ #[Value.int .i64 ((p : Int) * 65536)]).at2 (by simp)).cell j).trans (by simpa using hj)
    case c2 => intro u hu; simp at hu; subst hu; rfl
    case c3 => unfold maxLen; omega
    case c4 => omega
    case c5 => have := hB.lt; simp at this ⊢; try omega
    · intro v' w5 hown' hgrow hnil
      have hr := OptRel.app hn ho hB hb hown' hgrow
      clear hown' hgrow hnil ho hB hb
      go_wp2_with fail
      go_meet
      exact hr
    · go_meet
      exact hr0.out
  case rest =>
  have hrel := hcut
  clear hcut
  obtain ⟨⟨n, xs, hn, ho⟩, hB, hb⟩ := hrel
  obtain ⟨A, m, c, rfl⟩ := own_slice ho
  go_wp2_with fail
  go_ret
  exact ⟨⟨A, m, c, rfl⟩, hb⟩
end Go.Proofs.YtoefegbbnaonoaaDoor
