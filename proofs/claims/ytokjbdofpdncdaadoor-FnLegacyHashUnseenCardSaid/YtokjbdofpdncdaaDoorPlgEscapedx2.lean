-- PRINTED BY print.sh 35421559b90ae4d0a3588c463048766b98c2df88dd9212a6774a882060cdf62d: not written by this session
import Derived.Test.YtokjbdofpdncdaaDoorPlgEscapedx0
import Derived.Test.YtokjbdofpdncdaaDoorPlgEscapedx1
namespace Go.Proofs.YtokjbdofpdncdaaDoor.PlgEscaped
open Go.RowKit Go.Proofs.YtokjbdofpdncdaaDoorW.PrintWords Go.Proofs.YtokjbdofpdncdaaDoorW.PrintLast Go.Proofs.YtokjbdofpdncdaaDoorW.PrintMore
attribute [local go_sem] max2_int min2_int max_two min_two max_three min_three max_four min_four   -- for this text's walks alone
set_option linter.unusedVariables false
set_option linter.unusedSimpArgs false

/-! ### spec_lgOnes: function 32 -/
def spec_lgOnes.l0 : Nat → List (S76) → Bool → List (S76) → Int → Int → Option ((List (S76)))
  | 0, _, _, _, _, _ => none
  | k + 1, x3, x4, x9, x10, x11 => if x11 < x10 then (if 0 ≤ x11 then (if x11 < (x9.length : Int) then ((spec_LgEscapes.f).bind fun t109 => (if ((rd_T76 x9 x11).f0) < 0 then (if ((rd_T76 x9 x11).f1).toList = ([] : List UInt8) then (spec_lgOnes.l0 k x3 x4 x9 x10 (wrap64 (x11 + 1))) else (if ((rd_T76 x9 x11).f0) = (wrap64 ((t109.length : Int) - 1)) then (if x4 = true then (spec_lgOnes.l0 k x3 x4 x9 x10 (wrap64 (x11 + 1))) else (if x3.length < 5864062014805 then (spec_lgOnes.l0 k (x3 ++ [(⟨(rd_T76 x9 x11).f0, (rd_T76 x9 x11).f1⟩ : S76)]) (((rd_T76 x9 x11).f0) == (wrap64 ((t109.length : Int) - 1))) x9 x10 (wrap64 (x11 + 1))) else (none))) else (if x3.length < 5864062014805 then (spec_lgOnes.l0 k (x3 ++ [(⟨(rd_T76 x9 x11).f0, (rd_T76 x9 x11).f1⟩ : S76)]) (((rd_T76 x9 x11).f0) == (wrap64 ((t109.length : Int) - 1))) x9 x10 (wrap64 (x11 + 1))) else (none)))) else (if ((rd_T76 x9 x11).f0) = (wrap64 ((t109.length : Int) - 1)) then (if x4 = true then (spec_lgOnes.l0 k x3 x4 x9 x10 (wrap64 (x11 + 1))) else (if x3.length < 5864062014805 then (spec_lgOnes.l0 k (x3 ++ [(⟨(rd_T76 x9 x11).f0, (rd_T76 x9 x11).f1⟩ : S76)]) (((rd_T76 x9 x11).f0) == (wrap64 ((t109.length : Int) - 1))) x9 x10 (wrap64 (x11 + 1))) else (none))) else (if x3.length < 5864062014805 then (spec_lgOnes.l0 k (x3 ++ [(⟨(rd_T76 x9 x11).f0, (rd_T76 x9 x11).f1⟩ : S76)]) (((rd_T76 x9 x11).f0) == (wrap64 ((t109.length : Int) - 1))) x9 x10 (wrap64 (x11 + 1))) else (none))))) else (none)) else (none)) else (some x3)
def spec_lgOnes.f (k : Nat) (l0 : List (S76)) : Option ((List (S76))) := spec_lgOnes.l0 k (([] : List (S76))) true l0 (l0.length : Int) 0
theorem spec_lgOnes.mono_l : ∀ k, (∀ y0 y1 y2 y3 y4, LeO (spec_lgOnes.l0 k y0 y1 y2 y3 y4) (spec_lgOnes.l0 (k + 1) y0 y1 y2 y3 y4))
  | 0 => fun _ _ _ _ _ r h => by simp [spec_lgOnes.l0] at h
  | k + 1 => by
    have ih0 := spec_lgOnes.mono_l k
    · intro y0 y1 y2 y3 y4
      unfold spec_lgOnes.l0
      repeat' first
      | (with_reducible exact ih0 _ _ _ _ _)
      | (with_reducible exact LeO.refl _)
      | (with_reducible exact LeO.none _)
      | (with_reducible refine LeO.ite ?_ ?_)
      | (with_reducible refine LeO.bind ?_ (fun _ => ?_))
      | exact ih0 _ _ _ _ _
      | exact LeO.none _
      | refine LeO.ite ?_ ?_
      | refine LeO.bind ?_ (fun _ => ?_)
theorem spec_lgOnes.mono : ∀ a0 k, LeO (spec_lgOnes.f k a0) (spec_lgOnes.f (k + 1) a0) := by
  intro a0 k
  have ih0 := spec_lgOnes.mono_l k
  unfold spec_lgOnes.f
  repeat' first
      | (with_reducible exact ih0 _ _ _ _ _)
      | (with_reducible exact LeO.refl _)
      | (with_reducible exact LeO.none _)
      | (with_reducible refine LeO.ite ?_ ?_)
      | (with_reducible refine LeO.bind ?_ (fun _ => ?_))
      | exact ih0 _ _ _ _ _
      | exact LeO.none _
      | refine LeO.ite ?_ ?_
      | refine LeO.bind ?_ (fun _ => ?_)
set_option maxHeartbeats 8000000 in
set_option maxRecDepth 100000 in
theorem spec_lgOnes.calls (k : Nat) (A0 : Option Addr) (c0 : Nat) (l0 : List (S76)) (r : List (S76)) (w : World) (hr0 : Kd.C k76 w A0 l0.length l0) (hc0 : l0.length ≤ c0) (h : spec_lgOnes.f k l0 = some r) :
    Calls Tryd.prog 32 #[.slice A0 l0.length c0] w fun e w' => ∃ v0_ : Value, e = .returned (v0_) ∧ Kd.R k76 76 w' w.heap.size (fun _ => True) v0_ r ∧ Below w.heap.size w w' := by
  have hu76 := Tryd.underlying76
  have HR0 := Aside0.mk hr0
  have HC0 := Aside0.mk hc0
  clear hr0 hc0
  have HB := Aside0.mk (Below.refl w.heap.size w)
  have H : (spec_lgOnes.l0 k (([] : List (S76))) true l0 (l0.length : Int) 0) = some r := h
  clear h
  obtain ⟨y104, hy104⟩ : ∃ y_ : List (S76), y_ = (([] : List (S76))) := ⟨_, rfl⟩
  replace H : (spec_lgOnes.l0 k y104 true l0 (l0.length : Int) 0) = some r := by first | (rw [hy104]; with_reducible exact H) | (have H2_ := (Option.bind_some _ _).symm.trans H; rw [hy104]; with_reducible exact H2_) | (have H2_ := (Option.bind_some _ _).symm.trans H; with_reducible exact H2_) | with_reducible exact H | (rw [hy104]; exact H) | exact H
  have Ny104 := Aside0.mk hy104
  clear hy104
  have H' := Aside0.mk H
  clear H
  go_enter Tryd.func32, Tryd.ntmps32
  go_wp2_with (first | ((with_reducible refine gate_dst (N := 8) rfl ?_); refine Kd.R_lit k76 _ 76 ?hg (N := 8) ?hd (xs := ([] : List (S76))) (inner := []) (ok := fun _ => True) (okp := fun _ => True) ?hr ?hp (fun _ hk => hk) trivial (Below.refl _ _) (Nat.le_refl _) (by simp) ?_; (case hd => rfl); (case hg => rfl); (case hr => first | (go_simp; done) | (go_simp; rfl)); (case hp => exact (Reps.none _ _)); intro v105 w2 ho3 hb hg_ hnew_; clear hg_ hnew_; (first | rw [← Ny104.out] at ho3 | (simp only [Int.reduceToNat] at ho3; rw [← Ny104.out] at ho3)); have n0_ := Aside0.mk (Kd.R_lower ho3 (below_size (by repeat (first | (with_reducible first | exact HB.out | apply below_alloc | apply pw_below_drewN | apply below_drew1) | exact HB.out)))); have n1_ := Aside0.mk (below_step (by repeat (first | (with_reducible first | exact HB.out | apply below_alloc | apply pw_below_drewN | apply below_drew1) | exact HB.out)) hb); clear HB; have HO106 := n0_; have HB := n1_; clear n0_ n1_; clear hb ho3))
  go_loopg [3, 4, 11] k (fun kq v3 v4 v11 w' => ∃ (x3_1 : List (S76)) (x4_1 : Bool) (x11_1 : Int), v4 = .bool x4_1 ∧ v11 = .int .i64 x11_1 ∧ Aside0 (spec_lgOnes.l0 kq x3_1 x4_1 l0 (l0.length : Int) x11_1 = some r) ∧ Aside0 (kq ≤ k) ∧ Aside0 (Kd.R k76 76 w' w.heap.size (fun _ => True) v3 x3_1) ∧ Aside0 (Below w.heap.size w w'))
  case atStart => exact ⟨(y104), (true), (0), (by first | rfl | (simp; done) | (simp [*]; done)), (by first | rfl | (simp; done) | (simp [*]; done)), H', ⟨Nat.le_refl _⟩, ⟨by (with_reducible repeat (first | apply Kd.R_alloc | apply Kd.R_drewN | apply Kd.R_drew)); exact HO106.out⟩, ⟨by repeat (first | (with_reducible first | exact HB.out | apply below_alloc | apply pw_below_drewN | apply below_drew1) | exact HB.out)⟩⟩
  case round =>
    clear H'
    try clear p2
    try clear c3
    obtain ⟨x3_1, x4_1, x11_1, rfl, rfl, HA, HK1, HO_3, HB⟩ := hrel
    cases gk with
    | zero => exact absurd HA.out (by simp [spec_lgOnes.l0])
    | succ k1 =>
      have H := HA.out
      clear HA
      simp only [spec_lgOnes.l0] at H
      by_cases c4 : x11_1 < (l0.length : Int)
      · rw [if_pos c4] at H
        have c4b0 : decide (x11_1 < (l0.length : Int)) = true := decide_eq_true c4
        clear c4
        by_cases c5 : 0 ≤ x11_1
        · rw [if_pos c5] at H
          have c5b0 : decide (0 ≤ x11_1) = true := decide_eq_true c5
          clear c5
          by_cases c6 : x11_1 < (l0.length : Int)
          · rw [if_pos c6] at H
            have c6b0 : decide (x11_1 < (l0.length : Int)) = true := decide_eq_true c6
            clear c6
            replace H := Option.bind_eq_some_iff.mp H
            obtain ⟨t109, A70, H⟩ := H
            replace H : (if ((rd_T76 l0 x11_1).f0) < 0 then (if ((rd_T76 l0 x11_1).f1).toList = ([] : List UInt8) then (spec_lgOnes.l0 k1 x3_1 x4_1 l0 (l0.length : Int) (wrap64 (x11_1 + 1))) else (if ((rd_T76 l0 x11_1).f0) = (wrap64 ((t109.length : Int) - 1)) then (if x4_1 = true then (spec_lgOnes.l0 k1 x3_1 x4_1 l0 (l0.length : Int) (wrap64 (x11_1 + 1))) else (if x3_1.length < 5864062014805 then (spec_lgOnes.l0 k1 (x3_1 ++ [(⟨(rd_T76 l0 x11_1).f0, (rd_T76 l0 x11_1).f1⟩ : S76)]) (((rd_T76 l0 x11_1).f0) == (wrap64 ((t109.length : Int) - 1))) l0 (l0.length : Int) (wrap64 (x11_1 + 1))) else (none))) else (if x3_1.length < 5864062014805 then (spec_lgOnes.l0 k1 (x3_1 ++ [(⟨(rd_T76 l0 x11_1).f0, (rd_T76 l0 x11_1).f1⟩ : S76)]) (((rd_T76 l0 x11_1).f0) == (wrap64 ((t109.length : Int) - 1))) l0 (l0.length : Int) (wrap64 (x11_1 + 1))) else (none)))) else (if ((rd_T76 l0 x11_1).f0) = (wrap64 ((t109.length : Int) - 1)) then (if x4_1 = true then (spec_lgOnes.l0 k1 x3_1 x4_1 l0 (l0.length : Int) (wrap64 (x11_1 + 1))) else (if x3_1.length < 5864062014805 then (spec_lgOnes.l0 k1 (x3_1 ++ [(⟨(rd_T76 l0 x11_1).f0, (rd_T76 l0 x11_1).f1⟩ : S76)]) (((rd_T76 l0 x11_1).f0) == (wrap64 ((t109.length : Int) - 1))) l0 (l0.length : Int) (wrap64 (x11_1 + 1))) else (none))) else (if x3_1.length < 5864062014805 then (spec_lgOnes.l0 k1 (x3_1 ++ [(⟨(rd_T76 l0 x11_1).f0, (rd_T76 l0 x11_1).f1⟩ : S76)]) (((rd_T76 l0 x11_1).f0) == (wrap64 ((t109.length : Int) - 1))) l0 (l0.length : Int) (wrap64 (x11_1 + 1))) else (none)))) = some r := H
            have A7 := Aside0.mk A70
            clear A70
            by_cases c8 : ((rd_T76 l0 x11_1).f0) < 0
            · rw [if_pos c8] at H
              have c8b0 : decide (((rd_T76 l0 x11_1).f0) < 0) = true := decide_eq_true c8
              clear c8
              by_cases c9 : ((rd_T76 l0 x11_1).f1).toList = ([] : List UInt8)
              · rw [if_pos c9] at H
                have c9b0 : (((rd_T76 l0 x11_1).f1).toList == ([] : List UInt8)) = true := beq_iff_eq.mpr c9
                have c9b1 : (((rd_T76 l0 x11_1).f1).toList != ([] : List UInt8)) = false := bne_eq_false_iff_eq.mpr c9
                clear c9
                have H' := Aside0.mk H
                clear H
                have p107 : 0 ≤ (x11_1 : Int) := of_decide_eq_true (by first | (with_reducible assumption) | assumption)
                have q107 : x11_1 < (l0.length : Int) := of_decide_eq_true (by first | (with_reducible assumption) | assumption)
                obtain ⟨ad107, e107, hx107_0, hx107_1⟩ := at_T76 HR0.out x11_1 p107 q107
                cases e107
                replace hx107_0 := (HB.out.cell (World.block_lt_of_cell? w _ hx107_0)).trans hx107_0
                replace hx107_1 := (HB.out.cell (World.block_lt_of_cell? w _ hx107_1)).trans hx107_1
                replace p107 := eq_true p107
                replace q107 := eq_true q107
                try go_wp2_with (first | ((with_reducible refine gate_dst (N := 6) rfl ?_); refine box_event ?hg (N := 6) ?hd (cs := #[.int .i64 0, .string (⟨#[]⟩ : ByteArray)]) (t := 76) ?hr ?_; (case hd => rfl); (case hg => rfl); (case hr => first | (go_simp; done) | (go_simp; rfl)); intro gb108 hg w10 hbox hb; have n0_ := Aside0.mk (Kd.R_below (Kd.R_elderB (by (with_reducible repeat (first | apply Kd.R_alloc | apply Kd.R_drewN | apply Kd.R_drew)); exact HO_3.out) gb108 (Nat.le_of_eq hg.symm)) hb); have n1_ := Aside0.mk (below_step (by repeat (first | (with_reducible first | exact HB.out | apply below_alloc | apply pw_below_drewN | apply below_drew1) | exact HB.out)) hb); have n2_ := Aside0.mk (hbox); have n3_ := Aside0.mk ((by rw [hg]; exact (below_size (by repeat (first | (with_reducible first | exact HB.out | apply below_alloc | apply pw_below_drewN | apply below_drew1) | exact HB.out))) : w.heap.size ≤ gb108)); have n4_ := Aside0.mk ((by rw [hg]; exact (below_size (by repeat (first | (with_reducible first | exact HB.out | apply below_alloc | apply pw_below_drewN | apply below_drew1) | exact HB.out))) : w.heap.size ≤ gb108)); clear HO_3; clear HB; have HO_3 := n0_; have HB := n1_; have BK108 := n2_; have GW108 := n3_; have GE108 := n4_; clear n0_ n1_ n2_ n3_ n4_; clear hb hbox hg; have hcz11_0 : w10.cell? ⟨gb108, 0, none⟩ = some (.int .i64 0) := (blk_cell BK108.out 0).trans rfl; have hcz11_1 : w10.cell? ⟨gb108, 1, none⟩ = some (.string (⟨#[]⟩ : ByteArray)) := (blk_cell BK108.out 1).trans rfl; have hfz11_0 := blk_frozen BK108.out 0; have hfz11_1 := blk_frozen BK108.out 1))
                have n0_ : Aside0 (Kd.R k76 76 ((w10.setCell ⟨gb108, 0, none⟩ (.int .i64 ((rd_T76 l0 x11_1).f0))).setCell ⟨gb108, 1, none⟩ (.string ((rd_T76 l0 x11_1).f1))) w.heap.size (fun k_ => k_ ≠ gb108) u3 x3_1) := ⟨by (with_reducible repeat (first | apply Kd.R_alloc | apply Kd.R_drewN | apply Kd.R_drew)); exact Kd.R_mono (Kd.R_far (p := ⟨gb108, 1, none⟩) (Kd.R_far (p := ⟨gb108, 0, none⟩) (Kd.R_mono HO_3.out (fun k_ hk => (⟨hk, hk.2⟩ : _ ∧ k_ ≠ gb108))) (fun _ hk => hk.2) (.int .i64 ((rd_T76 l0 x11_1).f0))) (fun _ hk => hk.2) (.string ((rd_T76 l0 x11_1).f1))) (fun _ hk => hk.1.2)⟩
                have n1_ : Aside0 (((w10.setCell ⟨gb108, 0, none⟩ (.int .i64 ((rd_T76 l0 x11_1).f0))).setCell ⟨gb108, 1, none⟩ (.string ((rd_T76 l0 x11_1).f1))).heap[gb108]? = some (.cells #[.int .i64 ((rd_T76 l0 x11_1).f0), .string ((rd_T76 l0 x11_1).f1)] 76 (0, 0))) := ⟨by (with_reducible repeat (first | refine blk_drewN ?_ _ | refine blk_drew ?_ | refine blk_alloc ?_ _)); refine blk_put (cs := #[.int .i64 ((rd_T76 l0 x11_1).f0), .string (⟨#[]⟩ : ByteArray)]) ?_ 1 _ rfl; (with_reducible repeat (first | refine blk_drewN ?_ _ | refine blk_drew ?_ | refine blk_alloc ?_ _)); refine blk_put (cs := #[.int .i64 0, .string (⟨#[]⟩ : ByteArray)]) ?_ 0 _ rfl; (with_reducible repeat (first | refine blk_drewN ?_ _ | refine blk_drew ?_ | refine blk_alloc ?_ _)); exact BK108.out⟩
                have n2_ : Aside0 (Below w.heap.size w ((w10.setCell ⟨gb108, 0, none⟩ (.int .i64 ((rd_T76 l0 x11_1).f0))).setCell ⟨gb108, 1, none⟩ (.string ((rd_T76 l0 x11_1).f1)))) := ⟨by repeat (first | (with_reducible first | exact HB.out | apply below_alloc | apply pw_below_drewN | apply below_drew1 | refine below_set ?_ GE108.out) | exact HB.out)⟩
                (try clear HO_3)
                (try clear BK108)
                (try clear HB)
                generalize ((w10.setCell ⟨gb108, 0, none⟩ (.int .i64 ((rd_T76 l0 x11_1).f0))).setCell ⟨gb108, 1, none⟩ (.string ((rd_T76 l0 x11_1).f1))) = w12 at n0_ n1_ n2_ ⊢
                have HO_3 := n0_
                have BK108 := n1_
                have HB := n2_
                clear n0_ n1_ n2_
                have n0_ := Aside0.mk (Kd.R_drew HO_3.out)
                have n1_ := Aside0.mk (blk_drew BK108.out)
                have n2_ := Aside0.mk (below_drew1 HB.out)
                clear HO_3
                clear BK108
                clear HB
                have HO_3 := n0_
                have BK108 := n1_
                have HB := n2_
                clear n0_ n1_ n2_
                refine start_ (n := 7) (S := fun w' => w'.cell? ⟨gb108, 0, none⟩ = some (.int .i64 ((rd_T76 l0 x11_1).f0)) ∧ w'.cell? ⟨gb108, 1, none⟩ = some (.string ((rd_T76 l0 x11_1).f1))) (ds := []) #[false, false, false, false, false, false, false] (by kernel_rfl) rfl rfl ⟨(blk_cell BK108.out 0).trans rfl, (blk_cell BK108.out 1).trans rfl⟩ (fun hHeld => ?_)
                generalize w12.drew = w13 at HO_3 BK108 HB hHeld ⊢
                refine pure_ (i := 0) (N := some 15) (v := ?_) (a' := ?_) #[true, false, false, false, false, false, false] rfl rfl (by kernel_rfl) (fun _ _ _ h => h) (Or.inl ⟨by rfl, ?_⟩) ?_ ?_
                rotate_left
                · intro w'
                  go_simp
                  with_reducible rfl
                rotate_left
                · simp only [Act.put, List.setIfInBounds_toArray, List.set_cons_zero, List.set_cons_succ, i64_w, i32_w]
                  rfl
                refine take_ (i := 1) (N := some 16) (v := ?_) (a' := ?_) #[true, true, false, false, false, false, false] rfl rfl (by kernel_rfl) (fun _ _ _ h => h) (Or.inl ⟨by rfl, ?_⟩) hHeld ?_ ?_
                rotate_left
                · rintro w' ⟨s0, s1⟩
                  go_simp
                  with_reducible rfl
                rotate_left
                · simp only [Act.put, List.setIfInBounds_toArray, List.set_cons_zero, List.set_cons_succ, i64_w, i32_w]
                  rfl
                refine one_ (i := 2) (N := some 17) #[true, true, true, false, false, false, false] rfl rfl (by kernel_rfl) (by decide) (fun K hK => ?_)
                refine goes_ Tryd.func33 (by kernel_rfl) rfl #[] (by rfl) rfl rfl (by (try simp only [List.map_toArray, List.map_cons, List.map_nil]); first | done | rfl | (simp only [List.length_drop, List.length_take]; rfl)) ?_
                with_reducible refine (spec_LgEscapes.calls  t109 _ A7.out).mono ?_
                rintro e w14 ⟨v110, rfl, ho0, hb⟩
                refine ⟨_, rfl, ?_⟩
                have n0_ := Aside0.mk (Kd.R_below (by (with_reducible repeat (first | apply Kd.R_alloc | apply Kd.R_drewN | apply Kd.R_drew)); exact HO_3.out) hb)
                have n1_ := Aside0.mk (Kd.R_lower ho0 (below_size (by repeat (first | (with_reducible first | exact HB.out | apply below_alloc | apply pw_below_drewN | apply below_drew1 | refine below_set ?_ GE108.out) | exact HB.out))))
                have n2_ := Aside0.mk (blk_below (g := gb108) (o := .cells #[.int .i64 ((rd_T76 l0 x11_1).f0), .string ((rd_T76 l0 x11_1).f1)] 76 (0, 0)) (by (with_reducible repeat (first | refine blk_drewN ?_ _ | refine blk_drew ?_ | refine blk_alloc ?_ _)); exact BK108.out) hb)
                have n3_ := Aside0.mk (below_step (by repeat (first | (with_reducible first | exact HB.out | apply below_alloc | apply pw_below_drewN | apply below_drew1 | refine below_set ?_ GE108.out) | exact HB.out)) hb)
                clear HO_3
                clear BK108
                clear HB
                have HO_3 := n0_
                have HO111 := n1_
                have BK108 := n2_
                have HB := n3_
                clear n0_ n1_ n2_ n3_
                (try clear hb)
                (try clear hb2)
                (try clear hk)
                (try clear hi)
                (try clear ho0)
                obtain ⟨Ao15, co15, eo15⟩ := Kd.R_slice HO111.out
                (first | subst eo15 | (injection eo15 with f1_ f2_ f3_; have f4_ := f1_.symm; have f5_ := f3_.symm; clear f1_ f2_ f3_; subst f4_; subst f5_))
                refine hK.out _ _ ⟨(blk_cell BK108.out 0).trans rfl, (blk_cell BK108.out 1).trans rfl⟩ (fun hHeld => ?_)
                clear hK K
                refine norm_ (a' := ?_) ?_ ?_
                rotate_left
                · show Act.put _ (some 17) _ = _
                  simp only [Act.put, List.setIfInBounds_toArray, List.set_cons_zero, List.set_cons_succ, i64_w, i32_w]
                  rfl
                refine pure_ (i := 3) (N := some 18) (v := ?_) (a' := ?_) #[true, true, true, true, false, false, false] rfl rfl (by kernel_rfl) (fun _ _ _ h => h) (Or.inl ⟨by rfl, ?_⟩) ?_ ?_
                rotate_left
                · intro w'
                  go_simp
                  with_reducible rfl
                rotate_left
                · simp only [Act.put, List.setIfInBounds_toArray, List.set_cons_zero, List.set_cons_succ, i64_w, i32_w]
                  rfl
                refine pure_ (i := 4) (N := some 19) (v := ?_) (a' := ?_) #[true, true, true, true, true, false, false] rfl rfl (by kernel_rfl) (fun _ _ _ h => h) (Or.inl ⟨by rfl, ?_⟩) ?_ ?_
                rotate_left
                · intro w'
                  go_simp
                  with_reducible rfl
                rotate_left
                · simp only [Act.put, List.setIfInBounds_toArray, List.set_cons_zero, List.set_cons_succ, i64_w, i32_w]
                  rfl
                refine pure_ (i := 5) (N := some 20) (v := ?_) (a' := ?_) #[true, true, true, true, true, true, false] rfl rfl (by kernel_rfl) (fun _ _ _ h => h) (Or.inl ⟨by rfl, ?_⟩) ?_ ?_
                rotate_left
                · intro w'
                  go_simp
                  with_reducible rfl
                rotate_left
                · simp only [Act.put, List.setIfInBounds_toArray, List.set_cons_zero, List.set_cons_succ, i64_w, i32_w]
                  rfl
                refine pure_ (i := 6) (N := some 7) (v := ?_) (a' := ?_) #[true, true, true, true, true, true, true] rfl rfl (by kernel_rfl) (fun _ _ _ h => h) (Or.inl ⟨by rfl, ?_⟩) ?_ ?_
                rotate_left
                · intro w'
                  go_simp
                  with_reducible rfl
                rotate_left
                · simp only [Act.put, List.setIfInBounds_toArray, List.set_cons_zero, List.set_cons_succ, i64_w, i32_w]
                  rfl
                refine done_ (by kernel_rfl) ?_
                have hcz16_0 : w14.cell? ⟨gb108, 0, none⟩ = some (.int .i64 ((rd_T76 l0 x11_1).f0)) := (blk_cell BK108.out 0).trans rfl
                have hcz16_1 : w14.cell? ⟨gb108, 1, none⟩ = some (.string ((rd_T76 l0 x11_1).f1)) := (blk_cell BK108.out 1).trans rfl
                have hfz16_0 := blk_frozen BK108.out 0
                have hfz16_1 := blk_frozen BK108.out 1
                try go_wp2
                go_roundg k1
                case measure => have := HK1.out; omega
                case rel => exact ⟨(x3_1), (x4_1), (wrap64 (x11_1 + 1)), (by first | rfl | (simp; done) | (simp [*]; done)), (by first | rfl | (simp; done) | (simp [*]; done)), H', ⟨by have := HK1.out; omega⟩, ⟨by (with_reducible repeat (first | apply Kd.R_alloc | apply Kd.R_drewN | apply Kd.R_drew)); exact Kd.R_mono HO_3.out (fun _ hk => trivial)⟩, ⟨by repeat (first | (with_reducible first | exact HB.out | apply below_alloc | apply pw_below_drewN | apply below_drew1 | refine below_set ?_ GE108.out) | exact HB.out)⟩⟩
              · rw [if_neg c9] at H
                have c9b0 : (((rd_T76 l0 x11_1).f1).toList == ([] : List UInt8)) = false := beq_eq_false_iff_ne.mpr c9
                have c9b1 : (((rd_T76 l0 x11_1).f1).toList != ([] : List UInt8)) = true := bne_iff_ne.mpr c9
                by_cases c17 : ((rd_T76 l0 x11_1).f0) = (wrap64 ((t109.length : Int) - 1))
                · rw [if_pos c17] at H
                  have c17b0 : (((rd_T76 l0 x11_1).f0) == (wrap64 ((t109.length : Int) - 1))) = true := beq_iff_eq.mpr c17
                  have c17b1 : (((rd_T76 l0 x11_1).f0) != (wrap64 ((t109.length : Int) - 1))) = false := bne_eq_false_iff_eq.mpr c17
                  clear c17
                  by_cases c18 : x4_1 = true
                  · subst c18
                    have H1 : (spec_lgOnes.l0 k1 x3_1 true l0 (l0.length : Int) (wrap64 (x11_1 + 1))) = some r := by rw [if_pos rfl] at H; exact H
                    clear H
                    have H := H1
                    clear H1
                    have H' := Aside0.mk H
                    clear H
                    have p107 : 0 ≤ (x11_1 : Int) := of_decide_eq_true (by first | (with_reducible assumption) | assumption)
                    have q107 : x11_1 < (l0.length : Int) := of_decide_eq_true (by first | (with_reducible assumption) | assumption)
                    obtain ⟨ad107, e107, hx107_0, hx107_1⟩ := at_T76 HR0.out x11_1 p107 q107
                    cases e107
                    replace hx107_0 := (HB.out.cell (World.block_lt_of_cell? w _ hx107_0)).trans hx107_0
                    replace hx107_1 := (HB.out.cell (World.block_lt_of_cell? w _ hx107_1)).trans hx107_1
                    replace p107 := eq_true p107
                    replace q107 := eq_true q107
                    try go_wp2_with (first | ((with_reducible refine gate_dst (N := 6) rfl ?_); refine box_event ?hg (N := 6) ?hd (cs := #[.int .i64 0, .string (⟨#[]⟩ : ByteArray)]) (t := 76) ?hr ?_; (case hd => rfl); (case hg => rfl); (case hr => first | (go_simp; done) | (go_simp; rfl)); intro gb108 hg w19 hbox hb; have n0_ := Aside0.mk (Kd.R_below (Kd.R_elderB (by (with_reducible repeat (first | apply Kd.R_alloc | apply Kd.R_drewN | apply Kd.R_drew)); exact HO_3.out) gb108 (Nat.le_of_eq hg.symm)) hb); have n1_ := Aside0.mk (below_step (by repeat (first | (with_reducible first | exact HB.out | apply below_alloc | apply pw_below_drewN | apply below_drew1) | exact HB.out)) hb); have n2_ := Aside0.mk (hbox); have n3_ := Aside0.mk ((by rw [hg]; exact (below_size (by repeat (first | (with_reducible first | exact HB.out | apply below_alloc | apply pw_below_drewN | apply below_drew1) | exact HB.out))) : w.heap.size ≤ gb108)); have n4_ := Aside0.mk ((by rw [hg]; exact (below_size (by repeat (first | (with_reducible first | exact HB.out | apply below_alloc | apply pw_below_drewN | apply below_drew1) | exact HB.out))) : w.heap.size ≤ gb108)); clear HO_3; clear HB; have HO_3 := n0_; have HB := n1_; have BK108 := n2_; have GW108 := n3_; have GE108 := n4_; clear n0_ n1_ n2_ n3_ n4_; clear hb hbox hg; have hcz20_0 : w19.cell? ⟨gb108, 0, none⟩ = some (.int .i64 0) := (blk_cell BK108.out 0).trans rfl; have hcz20_1 : w19.cell? ⟨gb108, 1, none⟩ = some (.string (⟨#[]⟩ : ByteArray)) := (blk_cell BK108.out 1).trans rfl; have hfz20_0 := blk_frozen BK108.out 0; have hfz20_1 := blk_frozen BK108.out 1))
                    have n0_ : Aside0 (Kd.R k76 76 ((w19.setCell ⟨gb108, 0, none⟩ (.int .i64 ((rd_T76 l0 x11_1).f0))).setCell ⟨gb108, 1, none⟩ (.string ((rd_T76 l0 x11_1).f1))) w.heap.size (fun k_ => k_ ≠ gb108) u3 x3_1) := ⟨by (with_reducible repeat (first | apply Kd.R_alloc | apply Kd.R_drewN | apply Kd.R_drew)); exact Kd.R_mono (Kd.R_far (p := ⟨gb108, 1, none⟩) (Kd.R_far (p := ⟨gb108, 0, none⟩) (Kd.R_mono HO_3.out (fun k_ hk => (⟨hk, hk.2⟩ : _ ∧ k_ ≠ gb108))) (fun _ hk => hk.2) (.int .i64 ((rd_T76 l0 x11_1).f0))) (fun _ hk => hk.2) (.string ((rd_T76 l0 x11_1).f1))) (fun _ hk => hk.1.2)⟩
                    have n1_ : Aside0 (((w19.setCell ⟨gb108, 0, none⟩ (.int .i64 ((rd_T76 l0 x11_1).f0))).setCell ⟨gb108, 1, none⟩ (.string ((rd_T76 l0 x11_1).f1))).heap[gb108]? = some (.cells #[.int .i64 ((rd_T76 l0 x11_1).f0), .string ((rd_T76 l0 x11_1).f1)] 76 (0, 0))) := ⟨by (with_reducible repeat (first | refine blk_drewN ?_ _ | refine blk_drew ?_ | refine blk_alloc ?_ _)); refine blk_put (cs := #[.int .i64 ((rd_T76 l0 x11_1).f0), .string (⟨#[]⟩ : ByteArray)]) ?_ 1 _ rfl; (with_reducible repeat (first | refine blk_drewN ?_ _ | refine blk_drew ?_ | refine blk_alloc ?_ _)); refine blk_put (cs := #[.int .i64 0, .string (⟨#[]⟩ : ByteArray)]) ?_ 0 _ rfl; (with_reducible repeat (first | refine blk_drewN ?_ _ | refine blk_drew ?_ | refine blk_alloc ?_ _)); exact BK108.out⟩
                    have n2_ : Aside0 (Below w.heap.size w ((w19.setCell ⟨gb108, 0, none⟩ (.int .i64 ((rd_T76 l0 x11_1).f0))).setCell ⟨gb108, 1, none⟩ (.string ((rd_T76 l0 x11_1).f1)))) := ⟨by repeat (first | (with_reducible first | exact HB.out | apply below_alloc | apply pw_below_drewN | apply below_drew1 | refine below_set ?_ GE108.out) | exact HB.out)⟩
                    (try clear HO_3)
                    (try clear BK108)
                    (try clear HB)
                    generalize ((w19.setCell ⟨gb108, 0, none⟩ (.int .i64 ((rd_T76 l0 x11_1).f0))).setCell ⟨gb108, 1, none⟩ (.string ((rd_T76 l0 x11_1).f1))) = w21 at n0_ n1_ n2_ ⊢
                    have HO_3 := n0_
                    have BK108 := n1_
                    have HB := n2_
                    clear n0_ n1_ n2_
                    have n0_ := Aside0.mk (Kd.R_drew HO_3.out)
                    have n1_ := Aside0.mk (blk_drew BK108.out)
                    have n2_ := Aside0.mk (below_drew1 HB.out)
                    clear HO_3
                    clear BK108
                    clear HB
                    have HO_3 := n0_
                    have BK108 := n1_
                    have HB := n2_
                    clear n0_ n1_ n2_
                    refine start_ (n := 7) (S := fun w' => w'.cell? ⟨gb108, 0, none⟩ = some (.int .i64 ((rd_T76 l0 x11_1).f0)) ∧ w'.cell? ⟨gb108, 1, none⟩ = some (.string ((rd_T76 l0 x11_1).f1))) (ds := []) #[false, false, false, false, false, false, false] (by kernel_rfl) rfl rfl ⟨(blk_cell BK108.out 0).trans rfl, (blk_cell BK108.out 1).trans rfl⟩ (fun hHeld => ?_)
                    generalize w21.drew = w22 at HO_3 BK108 HB hHeld ⊢
                    refine pure_ (i := 0) (N := some 15) (v := ?_) (a' := ?_) #[true, false, false, false, false, false, false] rfl rfl (by kernel_rfl) (fun _ _ _ h => h) (Or.inl ⟨by rfl, ?_⟩) ?_ ?_
                    rotate_left
                    · intro w'
                      go_simp
                      with_reducible rfl
                    rotate_left
                    · simp only [Act.put, List.setIfInBounds_toArray, List.set_cons_zero, List.set_cons_succ, i64_w, i32_w]
                      rfl
                    refine take_ (i := 1) (N := some 16) (v := ?_) (a' := ?_) #[true, true, false, false, false, false, false] rfl rfl (by kernel_rfl) (fun _ _ _ h => h) (Or.inl ⟨by rfl, ?_⟩) hHeld ?_ ?_
                    rotate_left
                    · rintro w' ⟨s0, s1⟩
                      go_simp
                      with_reducible rfl
                    rotate_left
                    · simp only [Act.put, List.setIfInBounds_toArray, List.set_cons_zero, List.set_cons_succ, i64_w, i32_w]
                      rfl
                    refine one_ (i := 2) (N := some 17) #[true, true, true, false, false, false, false] rfl rfl (by kernel_rfl) (by decide) (fun K hK => ?_)
                    refine goes_ Tryd.func33 (by kernel_rfl) rfl #[] (by rfl) rfl rfl (by (try simp only [List.map_toArray, List.map_cons, List.map_nil]); first | done | rfl | (simp only [List.length_drop, List.length_take]; rfl)) ?_
                    with_reducible refine (spec_LgEscapes.calls  t109 _ A7.out).mono ?_
                    rintro e w23 ⟨v110, rfl, ho0, hb⟩
                    refine ⟨_, rfl, ?_⟩
                    have n0_ := Aside0.mk (Kd.R_below (by (with_reducible repeat (first | apply Kd.R_alloc | apply Kd.R_drewN | apply Kd.R_drew)); exact HO_3.out) hb)
                    have n1_ := Aside0.mk (Kd.R_lower ho0 (below_size (by repeat (first | (with_reducible first | exact HB.out | apply below_alloc | apply pw_below_drewN | apply below_drew1 | refine below_set ?_ GE108.out) | exact HB.out))))
                    have n2_ := Aside0.mk (blk_below (g := gb108) (o := .cells #[.int .i64 ((rd_T76 l0 x11_1).f0), .string ((rd_T76 l0 x11_1).f1)] 76 (0, 0)) (by (with_reducible repeat (first | refine blk_drewN ?_ _ | refine blk_drew ?_ | refine blk_alloc ?_ _)); exact BK108.out) hb)
                    have n3_ := Aside0.mk (below_step (by repeat (first | (with_reducible first | exact HB.out | apply below_alloc | apply pw_below_drewN | apply below_drew1 | refine below_set ?_ GE108.out) | exact HB.out)) hb)
                    clear HO_3
                    clear BK108
                    clear HB
                    have HO_3 := n0_
                    have HO111 := n1_
                    have BK108 := n2_
                    have HB := n3_
                    clear n0_ n1_ n2_ n3_
                    (try clear hb)
                    (try clear hb2)
                    (try clear hk)
                    (try clear hi)
                    (try clear ho0)
                    obtain ⟨Ao24, co24, eo24⟩ := Kd.R_slice HO111.out
                    (first | subst eo24 | (injection eo24 with f1_ f2_ f3_; have f4_ := f1_.symm; have f5_ := f3_.symm; clear f1_ f2_ f3_; subst f4_; subst f5_))
                    refine hK.out _ _ ⟨(blk_cell BK108.out 0).trans rfl, (blk_cell BK108.out 1).trans rfl⟩ (fun hHeld => ?_)
                    clear hK K
                    refine norm_ (a' := ?_) ?_ ?_
                    rotate_left
                    · show Act.put _ (some 17) _ = _
                      simp only [Act.put, List.setIfInBounds_toArray, List.set_cons_zero, List.set_cons_succ, i64_w, i32_w]
                      rfl
                    refine pure_ (i := 3) (N := some 18) (v := ?_) (a' := ?_) #[true, true, true, true, false, false, false] rfl rfl (by kernel_rfl) (fun _ _ _ h => h) (Or.inl ⟨by rfl, ?_⟩) ?_ ?_
                    rotate_left
                    · intro w'
                      go_simp
                      with_reducible rfl
                    rotate_left
                    · simp only [Act.put, List.setIfInBounds_toArray, List.set_cons_zero, List.set_cons_succ, i64_w, i32_w]
                      rfl
                    refine pure_ (i := 4) (N := some 19) (v := ?_) (a' := ?_) #[true, true, true, true, true, false, false] rfl rfl (by kernel_rfl) (fun _ _ _ h => h) (Or.inl ⟨by rfl, ?_⟩) ?_ ?_
                    rotate_left
                    · intro w'
                      go_simp
                      with_reducible rfl
                    rotate_left
                    · simp only [Act.put, List.setIfInBounds_toArray, List.set_cons_zero, List.set_cons_succ, i64_w, i32_w]
                      rfl
                    refine pure_ (i := 5) (N := some 20) (v := ?_) (a' := ?_) #[true, true, true, true, true, true, false] rfl rfl (by kernel_rfl) (fun _ _ _ h => h) (Or.inl ⟨by rfl, ?_⟩) ?_ ?_
                    rotate_left
                    · intro w'
                      go_simp
                      with_reducible rfl
                    rotate_left
                    · simp only [Act.put, List.setIfInBounds_toArray, List.set_cons_zero, List.set_cons_succ, i64_w, i32_w]
                      rfl
                    refine pure_ (i := 6) (N := some 7) (v := ?_) (a' := ?_) #[true, true, true, true, true, true, true] rfl rfl (by kernel_rfl) (fun _ _ _ h => h) (Or.inl ⟨by rfl, ?_⟩) ?_ ?_
                    rotate_left
                    · intro w'
                      go_simp
                      with_reducible rfl
                    rotate_left
                    · simp only [Act.put, List.setIfInBounds_toArray, List.set_cons_zero, List.set_cons_succ, i64_w, i32_w]
                      rfl
                    refine done_ (by kernel_rfl) ?_
                    have hcz25_0 : w23.cell? ⟨gb108, 0, none⟩ = some (.int .i64 ((rd_T76 l0 x11_1).f0)) := (blk_cell BK108.out 0).trans rfl
                    have hcz25_1 : w23.cell? ⟨gb108, 1, none⟩ = some (.string ((rd_T76 l0 x11_1).f1)) := (blk_cell BK108.out 1).trans rfl
                    have hfz25_0 := blk_frozen BK108.out 0
                    have hfz25_1 := blk_frozen BK108.out 1
                    try go_wp2
                    go_roundg k1
                    case measure => have := HK1.out; omega
                    case rel => exact ⟨(x3_1), (true), (wrap64 (x11_1 + 1)), (by first | rfl | (simp; done) | (simp [*]; done)), (by first | rfl | (simp; done) | (simp [*]; done)), H', ⟨by have := HK1.out; omega⟩, ⟨by (with_reducible repeat (first | apply Kd.R_alloc | apply Kd.R_drewN | apply Kd.R_drew)); exact Kd.R_mono HO_3.out (fun _ hk => trivial)⟩, ⟨by repeat (first | (with_reducible first | exact HB.out | apply below_alloc | apply pw_below_drewN | apply below_drew1 | refine below_set ?_ GE108.out) | exact HB.out)⟩⟩
                  · replace c18 := Bool.eq_false_iff.mpr c18
                    subst c18
                    have H1 : (if x3_1.length < 5864062014805 then (spec_lgOnes.l0 k1 (x3_1 ++ [(⟨(rd_T76 l0 x11_1).f0, (rd_T76 l0 x11_1).f1⟩ : S76)]) (((rd_T76 l0 x11_1).f0) == (wrap64 ((t109.length : Int) - 1))) l0 (l0.length : Int) (wrap64 (x11_1 + 1))) else (none)) = some r := by rw [if_neg (show ¬ (false = true) by decide)] at H; exact H
                    clear H
                    have H := H1
                    clear H1
                    by_cases c26 : x3_1.length < 5864062014805
                    · rw [if_pos c26] at H
                      have LMc26 := Aside0.mk c26
                      clear c26
                      obtain ⟨y112, hy112⟩ : ∃ y_ : List (S76), y_ = (x3_1 ++ [(⟨(rd_T76 l0 x11_1).f0, (rd_T76 l0 x11_1).f1⟩ : S76)]) := ⟨_, rfl⟩
                      replace H : (spec_lgOnes.l0 k1 y112 (((rd_T76 l0 x11_1).f0) == (wrap64 ((t109.length : Int) - 1))) l0 (l0.length : Int) (wrap64 (x11_1 + 1))) = some r := by first | (rw [hy112]; with_reducible exact H) | (have H2_ := (Option.bind_some _ _).symm.trans H; rw [hy112]; with_reducible exact H2_) | (have H2_ := (Option.bind_some _ _).symm.trans H; with_reducible exact H2_) | with_reducible exact H | (rw [hy112]; exact H) | exact H
                      have Ny112 := Aside0.mk hy112
                      clear hy112
                      have H' := Aside0.mk H
                      clear H
                      have p107 : 0 ≤ (x11_1 : Int) := of_decide_eq_true (by first | (with_reducible assumption) | assumption)
                      have q107 : x11_1 < (l0.length : Int) := of_decide_eq_true (by first | (with_reducible assumption) | assumption)
                      obtain ⟨ad107, e107, hx107_0, hx107_1⟩ := at_T76 HR0.out x11_1 p107 q107
                      cases e107
                      replace hx107_0 := (HB.out.cell (World.block_lt_of_cell? w _ hx107_0)).trans hx107_0
                      replace hx107_1 := (HB.out.cell (World.block_lt_of_cell? w _ hx107_1)).trans hx107_1
                      replace p107 := eq_true p107
                      replace q107 := eq_true q107
                      try go_wp2_with (first | ((with_reducible refine gate_dst (N := 6) rfl ?_); refine box_event ?hg (N := 6) ?hd (cs := #[.int .i64 0, .string (⟨#[]⟩ : ByteArray)]) (t := 76) ?hr ?_; (case hd => rfl); (case hg => rfl); (case hr => first | (go_simp; done) | (go_simp; rfl)); intro gb108 hg w27 hbox hb; have n0_ := Aside0.mk (Kd.R_below (Kd.R_elderB (by (with_reducible repeat (first | apply Kd.R_alloc | apply Kd.R_drewN | apply Kd.R_drew)); exact HO_3.out) gb108 (Nat.le_of_eq hg.symm)) hb); have n1_ := Aside0.mk (below_step (by repeat (first | (with_reducible first | exact HB.out | apply below_alloc | apply pw_below_drewN | apply below_drew1) | exact HB.out)) hb); have n2_ := Aside0.mk (hbox); have n3_ := Aside0.mk ((by rw [hg]; exact (below_size (by repeat (first | (with_reducible first | exact HB.out | apply below_alloc | apply pw_below_drewN | apply below_drew1) | exact HB.out))) : w.heap.size ≤ gb108)); have n4_ := Aside0.mk ((by rw [hg]; exact (below_size (by repeat (first | (with_reducible first | exact HB.out | apply below_alloc | apply pw_below_drewN | apply below_drew1) | exact HB.out))) : w.heap.size ≤ gb108)); clear HO_3; clear HB; have HO_3 := n0_; have HB := n1_; have BK108 := n2_; have GW108 := n3_; have GE108 := n4_; clear n0_ n1_ n2_ n3_ n4_; clear hb hbox hg; have hcz28_0 : w27.cell? ⟨gb108, 0, none⟩ = some (.int .i64 0) := (blk_cell BK108.out 0).trans rfl; have hcz28_1 : w27.cell? ⟨gb108, 1, none⟩ = some (.string (⟨#[]⟩ : ByteArray)) := (blk_cell BK108.out 1).trans rfl; have hfz28_0 := blk_frozen BK108.out 0; have hfz28_1 := blk_frozen BK108.out 1))
                      have n0_ : Aside0 (Kd.R k76 76 ((w27.setCell ⟨gb108, 0, none⟩ (.int .i64 ((rd_T76 l0 x11_1).f0))).setCell ⟨gb108, 1, none⟩ (.string ((rd_T76 l0 x11_1).f1))) w.heap.size (fun k_ => k_ ≠ gb108) u3 x3_1) := ⟨by (with_reducible repeat (first | apply Kd.R_alloc | apply Kd.R_drewN | apply Kd.R_drew)); exact Kd.R_mono (Kd.R_far (p := ⟨gb108, 1, none⟩) (Kd.R_far (p := ⟨gb108, 0, none⟩) (Kd.R_mono HO_3.out (fun k_ hk => (⟨hk, hk.2⟩ : _ ∧ k_ ≠ gb108))) (fun _ hk => hk.2) (.int .i64 ((rd_T76 l0 x11_1).f0))) (fun _ hk => hk.2) (.string ((rd_T76 l0 x11_1).f1))) (fun _ hk => hk.1.2)⟩
                      have n1_ : Aside0 (((w27.setCell ⟨gb108, 0, none⟩ (.int .i64 ((rd_T76 l0 x11_1).f0))).setCell ⟨gb108, 1, none⟩ (.string ((rd_T76 l0 x11_1).f1))).heap[gb108]? = some (.cells #[.int .i64 ((rd_T76 l0 x11_1).f0), .string ((rd_T76 l0 x11_1).f1)] 76 (0, 0))) := ⟨by (with_reducible repeat (first | refine blk_drewN ?_ _ | refine blk_drew ?_ | refine blk_alloc ?_ _)); refine blk_put (cs := #[.int .i64 ((rd_T76 l0 x11_1).f0), .string (⟨#[]⟩ : ByteArray)]) ?_ 1 _ rfl; (with_reducible repeat (first | refine blk_drewN ?_ _ | refine blk_drew ?_ | refine blk_alloc ?_ _)); refine blk_put (cs := #[.int .i64 0, .string (⟨#[]⟩ : ByteArray)]) ?_ 0 _ rfl; (with_reducible repeat (first | refine blk_drewN ?_ _ | refine blk_drew ?_ | refine blk_alloc ?_ _)); exact BK108.out⟩
                      have n2_ : Aside0 (Below w.heap.size w ((w27.setCell ⟨gb108, 0, none⟩ (.int .i64 ((rd_T76 l0 x11_1).f0))).setCell ⟨gb108, 1, none⟩ (.string ((rd_T76 l0 x11_1).f1)))) := ⟨by repeat (first | (with_reducible first | exact HB.out | apply below_alloc | apply pw_below_drewN | apply below_drew1 | refine below_set ?_ GE108.out) | exact HB.out)⟩
                      (try clear HO_3)
                      (try clear BK108)
                      (try clear HB)
                      generalize ((w27.setCell ⟨gb108, 0, none⟩ (.int .i64 ((rd_T76 l0 x11_1).f0))).setCell ⟨gb108, 1, none⟩ (.string ((rd_T76 l0 x11_1).f1))) = w29 at n0_ n1_ n2_ ⊢
                      have HO_3 := n0_
                      have BK108 := n1_
                      have HB := n2_
                      clear n0_ n1_ n2_
                      have n0_ := Aside0.mk (Kd.R_drew HO_3.out)
                      have n1_ := Aside0.mk (blk_drew BK108.out)
                      have n2_ := Aside0.mk (below_drew1 HB.out)
                      clear HO_3
                      clear BK108
                      clear HB
                      have HO_3 := n0_
                      have BK108 := n1_
                      have HB := n2_
                      clear n0_ n1_ n2_
                      refine start_ (n := 7) (S := fun w' => w'.cell? ⟨gb108, 0, none⟩ = some (.int .i64 ((rd_T76 l0 x11_1).f0)) ∧ w'.cell? ⟨gb108, 1, none⟩ = some (.string ((rd_T76 l0 x11_1).f1))) (ds := []) #[false, false, false, false, false, false, false] (by kernel_rfl) rfl rfl ⟨(blk_cell BK108.out 0).trans rfl, (blk_cell BK108.out 1).trans rfl⟩ (fun hHeld => ?_)
                      generalize w29.drew = w30 at HO_3 BK108 HB hHeld ⊢
                      refine pure_ (i := 0) (N := some 15) (v := ?_) (a' := ?_) #[true, false, false, false, false, false, false] rfl rfl (by kernel_rfl) (fun _ _ _ h => h) (Or.inl ⟨by rfl, ?_⟩) ?_ ?_
                      rotate_left
                      · intro w'
                        go_simp
                        with_reducible rfl
                      rotate_left
                      · simp only [Act.put, List.setIfInBounds_toArray, List.set_cons_zero, List.set_cons_succ, i64_w, i32_w]
                        rfl
                      refine take_ (i := 1) (N := some 16) (v := ?_) (a' := ?_) #[true, true, false, false, false, false, false] rfl rfl (by kernel_rfl) (fun _ _ _ h => h) (Or.inl ⟨by rfl, ?_⟩) hHeld ?_ ?_
                      rotate_left
                      · rintro w' ⟨s0, s1⟩
                        go_simp
                        with_reducible rfl
                      rotate_left
                      · simp only [Act.put, List.setIfInBounds_toArray, List.set_cons_zero, List.set_cons_succ, i64_w, i32_w]
                        rfl
                      refine one_ (i := 2) (N := some 17) #[true, true, true, false, false, false, false] rfl rfl (by kernel_rfl) (by decide) (fun K hK => ?_)
                      refine goes_ Tryd.func33 (by kernel_rfl) rfl #[] (by rfl) rfl rfl (by (try simp only [List.map_toArray, List.map_cons, List.map_nil]); first | done | rfl | (simp only [List.length_drop, List.length_take]; rfl)) ?_
                      with_reducible refine (spec_LgEscapes.calls  t109 _ A7.out).mono ?_
                      rintro e w31 ⟨v110, rfl, ho0, hb⟩
                      refine ⟨_, rfl, ?_⟩
                      have n0_ := Aside0.mk (Kd.R_below (by (with_reducible repeat (first | apply Kd.R_alloc | apply Kd.R_drewN | apply Kd.R_drew)); exact HO_3.out) hb)
                      have n1_ := Aside0.mk (Kd.R_lower ho0 (below_size (by repeat (first | (with_reducible first | exact HB.out | apply below_alloc | apply pw_below_drewN | apply below_drew1 | refine below_set ?_ GE108.out) | exact HB.out))))
                      have n2_ := Aside0.mk (blk_below (g := gb108) (o := .cells #[.int .i64 ((rd_T76 l0 x11_1).f0), .string ((rd_T76 l0 x11_1).f1)] 76 (0, 0)) (by (with_reducible repeat (first | refine blk_drewN ?_ _ | refine blk_drew ?_ | refine blk_alloc ?_ _)); exact BK108.out) hb)
                      have n3_ := Aside0.mk (below_step (by repeat (first | (with_reducible first | exact HB.out | apply below_alloc | apply pw_below_drewN | apply below_drew1 | refine below_set ?_ GE108.out) | exact HB.out)) hb)
                      clear HO_3
                      clear BK108
                      clear HB
                      have HO_3 := n0_
                      have HO111 := n1_
                      have BK108 := n2_
                      have HB := n3_
                      clear n0_ n1_ n2_ n3_
                      (try clear hb)
                      (try clear hb2)
                      (try clear hk)
                      (try clear hi)
                      (try clear ho0)
                      obtain ⟨Ao32, co32, eo32⟩ := Kd.R_slice HO111.out
                      (first | subst eo32 | (injection eo32 with f1_ f2_ f3_; have f4_ := f1_.symm; have f5_ := f3_.symm; clear f1_ f2_ f3_; subst f4_; subst f5_))
                      refine hK.out _ _ ⟨(blk_cell BK108.out 0).trans rfl, (blk_cell BK108.out 1).trans rfl⟩ (fun hHeld => ?_)
                      clear hK K
                      refine norm_ (a' := ?_) ?_ ?_
                      rotate_left
                      · show Act.put _ (some 17) _ = _
                        simp only [Act.put, List.setIfInBounds_toArray, List.set_cons_zero, List.set_cons_succ, i64_w, i32_w]
                        rfl
                      refine pure_ (i := 3) (N := some 18) (v := ?_) (a' := ?_) #[true, true, true, true, false, false, false] rfl rfl (by kernel_rfl) (fun _ _ _ h => h) (Or.inl ⟨by rfl, ?_⟩) ?_ ?_
                      rotate_left
                      · intro w'
                        go_simp
                        with_reducible rfl
                      rotate_left
                      · simp only [Act.put, List.setIfInBounds_toArray, List.set_cons_zero, List.set_cons_succ, i64_w, i32_w]
                        rfl
                      refine pure_ (i := 4) (N := some 19) (v := ?_) (a' := ?_) #[true, true, true, true, true, false, false] rfl rfl (by kernel_rfl) (fun _ _ _ h => h) (Or.inl ⟨by rfl, ?_⟩) ?_ ?_
                      rotate_left
                      · intro w'
                        go_simp
                        with_reducible rfl
                      rotate_left
                      · simp only [Act.put, List.setIfInBounds_toArray, List.set_cons_zero, List.set_cons_succ, i64_w, i32_w]
                        rfl
                      refine pure_ (i := 5) (N := some 20) (v := ?_) (a' := ?_) #[true, true, true, true, true, true, false] rfl rfl (by kernel_rfl) (fun _ _ _ h => h) (Or.inl ⟨by rfl, ?_⟩) ?_ ?_
                      rotate_left
                      · intro w'
                        go_simp
                        with_reducible rfl
                      rotate_left
                      · simp only [Act.put, List.setIfInBounds_toArray, List.set_cons_zero, List.set_cons_succ, i64_w, i32_w]
                        rfl
                      refine pure_ (i := 6) (N := some 7) (v := ?_) (a' := ?_) #[true, true, true, true, true, true, true] rfl rfl (by kernel_rfl) (fun _ _ _ h => h) (Or.inl ⟨by rfl, ?_⟩) ?_ ?_
                      rotate_left
                      · intro w'
                        go_simp
                        with_reducible rfl
                      rotate_left
                      · simp only [Act.put, List.setIfInBounds_toArray, List.set_cons_zero, List.set_cons_succ, i64_w, i32_w]
                        rfl
                      refine done_ (by kernel_rfl) ?_
                      have hcz33_0 : w31.cell? ⟨gb108, 0, none⟩ = some (.int .i64 ((rd_T76 l0 x11_1).f0)) := (blk_cell BK108.out 0).trans rfl
                      have hcz33_1 : w31.cell? ⟨gb108, 1, none⟩ = some (.string ((rd_T76 l0 x11_1).f1)) := (blk_cell BK108.out 1).trans rfl
                      have hfz33_0 := blk_frozen BK108.out 0
                      have hfz33_1 := blk_frozen BK108.out 1
                      try go_wp2_with (first | ((with_reducible refine gate_builtin (b := .append) (xs := #[.tmp 35, .tmp 37]) rfl ?_); at_builtin; refine Kd.R_append k76 (w0 := w) w.heap.size rfl (.tmp 35) (.tmp 37) 52 76 (.agg #[(.int .i64 0), (.string ⟨#[]⟩)]) 24 rfl Tryd.underlying52 info76 rfl (by decide) (by omega) u3 x3_1 (⟨(rd_T76 l0 x11_1).f0, (rd_T76 l0 x11_1).f1⟩ : S76) [.int .i64 ((rd_T76 l0 x11_1).f0), .string ((rd_T76 l0 x11_1).f1)] (fun k_ => k_ ≠ gb108) (fun _ => False) rfl rfl ?aP (fun _ hk => hk.elim) ?aF ?aO ?aB ?aS ?aL ?_; (case aP => exact k76_mkM _ _ _ (⟨(rd_T76 l0 x11_1).f0, (rd_T76 l0 x11_1).f1⟩ : S76)); (case aB => exact (by repeat (first | (with_reducible first | exact HB.out | apply below_alloc | apply pw_below_drewN | apply below_drew1 | refine below_set ?_ GE108.out) | exact HB.out))); (case aF => exact (fun k_ hk => Kd.freshB (g := gb108) (o := .cells #[.int .i64 ((rd_T76 l0 x11_1).f0), .string ((rd_T76 l0 x11_1).f1)] 76 (0, 0)) (by (with_reducible repeat (first | refine blk_drewN ?_ _ | refine blk_drew ?_ | refine blk_alloc ?_ _)); exact BK108.out) k_ hk)); (case aO => exact (by (with_reducible repeat (first | apply Kd.R_alloc | apply Kd.R_drewN | apply Kd.R_drew)); exact HO_3.out)); (case aS => exact (below_size (by repeat (first | (with_reducible first | exact HB.out | apply below_alloc | apply pw_below_drewN | apply below_drew1 | refine below_set ?_ GE108.out) | exact HB.out)))); (case aL => have := LMc26.out; omega); intro v113 w34 ho hb hg hat; rw [← Ny112.out] at ho; have n0_ := Aside0.mk (blk_grown (g := gb108) (o := .cells #[.int .i64 ((rd_T76 l0 x11_1).f0), .string ((rd_T76 l0 x11_1).f1)] 76 (0, 0)) (by (with_reducible repeat (first | refine blk_drewN ?_ _ | refine blk_drew ?_ | refine blk_alloc ?_ _)); exact BK108.out) hg (Kd.R_away HO_3.out (fun _ hk => hk))); have n1_ := Aside0.mk (Kd.R_over' (by (with_reducible repeat (first | apply Kd.R_alloc | apply Kd.R_drewN | apply Kd.R_drew)); exact HO111.out) (Kd.R_typed (by (with_reducible repeat (first | apply Kd.R_alloc | apply Kd.R_drewN | apply Kd.R_drew)); exact HO_3.out)) (by decide) hg); have n2_ := Aside0.mk (hb); have n3_ := Aside0.mk (ho); clear BK108; clear HO111; clear HB; clear HO_3; have BK108 := n0_; have HO111 := n1_; have HB := n2_; have HO114 := n3_; clear n0_ n1_ n2_ n3_; clear ho hb hg hat))
                      go_roundg k1
                      case measure => have := HK1.out; omega
                      case rel => exact ⟨(y112), ((((rd_T76 l0 x11_1).f0) == (wrap64 ((t109.length : Int) - 1)))), (wrap64 (x11_1 + 1)), (by first | rfl | (simp; done) | (simp [*]; done)), (by first | rfl | (simp; done) | (simp [*]; done)), H', ⟨by have := HK1.out; omega⟩, ⟨by (with_reducible repeat (first | apply Kd.R_alloc | apply Kd.R_drewN | apply Kd.R_drew)); exact Kd.R_mono HO114.out (fun _ hk => trivial)⟩, ⟨by repeat (first | (with_reducible first | exact HB.out | apply below_alloc | apply pw_below_drewN | apply below_drew1 | refine below_set ?_ GE108.out) | exact HB.out)⟩⟩
                    · rw [if_neg c26] at H
                      exact absurd H (by simp)
                · rw [if_neg c17] at H
                  have c17b0 : (((rd_T76 l0 x11_1).f0) == (wrap64 ((t109.length : Int) - 1))) = false := beq_eq_false_iff_ne.mpr c17
                  have c17b1 : (((rd_T76 l0 x11_1).f0) != (wrap64 ((t109.length : Int) - 1))) = true := bne_iff_ne.mpr c17
                  by_cases c35 : x3_1.length < 5864062014805
                  · rw [if_pos c35] at H
                    have LMc35 := Aside0.mk c35
                    clear c35
                    obtain ⟨y115, hy115⟩ : ∃ y_ : List (S76), y_ = (x3_1 ++ [(⟨(rd_T76 l0 x11_1).f0, (rd_T76 l0 x11_1).f1⟩ : S76)]) := ⟨_, rfl⟩
                    replace H : (spec_lgOnes.l0 k1 y115 (((rd_T76 l0 x11_1).f0) == (wrap64 ((t109.length : Int) - 1))) l0 (l0.length : Int) (wrap64 (x11_1 + 1))) = some r := by first | (rw [hy115]; with_reducible exact H) | (have H2_ := (Option.bind_some _ _).symm.trans H; rw [hy115]; with_reducible exact H2_) | (have H2_ := (Option.bind_some _ _).symm.trans H; with_reducible exact H2_) | with_reducible exact H | (rw [hy115]; exact H) | exact H
                    have Ny115 := Aside0.mk hy115
                    clear hy115
                    have H' := Aside0.mk H
                    clear H
                    have p107 : 0 ≤ (x11_1 : Int) := of_decide_eq_true (by first | (with_reducible assumption) | assumption)
                    have q107 : x11_1 < (l0.length : Int) := of_decide_eq_true (by first | (with_reducible assumption) | assumption)
                    obtain ⟨ad107, e107, hx107_0, hx107_1⟩ := at_T76 HR0.out x11_1 p107 q107
                    cases e107
                    replace hx107_0 := (HB.out.cell (World.block_lt_of_cell? w _ hx107_0)).trans hx107_0
                    replace hx107_1 := (HB.out.cell (World.block_lt_of_cell? w _ hx107_1)).trans hx107_1
                    replace p107 := eq_true p107
                    replace q107 := eq_true q107
                    try go_wp2_with (first | ((with_reducible refine gate_dst (N := 6) rfl ?_); refine box_event ?hg (N := 6) ?hd (cs := #[.int .i64 0, .string (⟨#[]⟩ : ByteArray)]) (t := 76) ?hr ?_; (case hd => rfl); (case hg => rfl); (case hr => first | (go_simp; done) | (go_simp; rfl)); intro gb108 hg w36 hbox hb; have n0_ := Aside0.mk (Kd.R_below (Kd.R_elderB (by (with_reducible repeat (first | apply Kd.R_alloc | apply Kd.R_drewN | apply Kd.R_drew)); exact HO_3.out) gb108 (Nat.le_of_eq hg.symm)) hb); have n1_ := Aside0.mk (below_step (by repeat (first | (with_reducible first | exact HB.out | apply below_alloc | apply pw_below_drewN | apply below_drew1) | exact HB.out)) hb); have n2_ := Aside0.mk (hbox); have n3_ := Aside0.mk ((by rw [hg]; exact (below_size (by repeat (first | (with_reducible first | exact HB.out | apply below_alloc | apply pw_below_drewN | apply below_drew1) | exact HB.out))) : w.heap.size ≤ gb108)); have n4_ := Aside0.mk ((by rw [hg]; exact (below_size (by repeat (first | (with_reducible first | exact HB.out | apply below_alloc | apply pw_below_drewN | apply below_drew1) | exact HB.out))) : w.heap.size ≤ gb108)); clear HO_3; clear HB; have HO_3 := n0_; have HB := n1_; have BK108 := n2_; have GW108 := n3_; have GE108 := n4_; clear n0_ n1_ n2_ n3_ n4_; clear hb hbox hg; have hcz37_0 : w36.cell? ⟨gb108, 0, none⟩ = some (.int .i64 0) := (blk_cell BK108.out 0).trans rfl; have hcz37_1 : w36.cell? ⟨gb108, 1, none⟩ = some (.string (⟨#[]⟩ : ByteArray)) := (blk_cell BK108.out 1).trans rfl; have hfz37_0 := blk_frozen BK108.out 0; have hfz37_1 := blk_frozen BK108.out 1))
                    have n0_ : Aside0 (Kd.R k76 76 ((w36.setCell ⟨gb108, 0, none⟩ (.int .i64 ((rd_T76 l0 x11_1).f0))).setCell ⟨gb108, 1, none⟩ (.string ((rd_T76 l0 x11_1).f1))) w.heap.size (fun k_ => k_ ≠ gb108) u3 x3_1) := ⟨by (with_reducible repeat (first | apply Kd.R_alloc | apply Kd.R_drewN | apply Kd.R_drew)); exact Kd.R_mono (Kd.R_far (p := ⟨gb108, 1, none⟩) (Kd.R_far (p := ⟨gb108, 0, none⟩) (Kd.R_mono HO_3.out (fun k_ hk => (⟨hk, hk.2⟩ : _ ∧ k_ ≠ gb108))) (fun _ hk => hk.2) (.int .i64 ((rd_T76 l0 x11_1).f0))) (fun _ hk => hk.2) (.string ((rd_T76 l0 x11_1).f1))) (fun _ hk => hk.1.2)⟩
                    have n1_ : Aside0 (((w36.setCell ⟨gb108, 0, none⟩ (.int .i64 ((rd_T76 l0 x11_1).f0))).setCell ⟨gb108, 1, none⟩ (.string ((rd_T76 l0 x11_1).f1))).heap[gb108]? = some (.cells #[.int .i64 ((rd_T76 l0 x11_1).f0), .string ((rd_T76 l0 x11_1).f1)] 76 (0, 0))) := ⟨by (with_reducible repeat (first | refine blk_drewN ?_ _ | refine blk_drew ?_ | refine blk_alloc ?_ _)); refine blk_put (cs := #[.int .i64 ((rd_T76 l0 x11_1).f0), .string (⟨#[]⟩ : ByteArray)]) ?_ 1 _ rfl; (with_reducible repeat (first | refine blk_drewN ?_ _ | refine blk_drew ?_ | refine blk_alloc ?_ _)); refine blk_put (cs := #[.int .i64 0, .string (⟨#[]⟩ : ByteArray)]) ?_ 0 _ rfl; (with_reducible repeat (first | refine blk_drewN ?_ _ | refine blk_drew ?_ | refine blk_alloc ?_ _)); exact BK108.out⟩
                    have n2_ : Aside0 (Below w.heap.size w ((w36.setCell ⟨gb108, 0, none⟩ (.int .i64 ((rd_T76 l0 x11_1).f0))).setCell ⟨gb108, 1, none⟩ (.string ((rd_T76 l0 x11_1).f1)))) := ⟨by repeat (first | (with_reducible first | exact HB.out | apply below_alloc | apply pw_below_drewN | apply below_drew1 | refine below_set ?_ GE108.out) | exact HB.out)⟩
                    (try clear HO_3)
                    (try clear BK108)
                    (try clear HB)
                    generalize ((w36.setCell ⟨gb108, 0, none⟩ (.int .i64 ((rd_T76 l0 x11_1).f0))).setCell ⟨gb108, 1, none⟩ (.string ((rd_T76 l0 x11_1).f1))) = w38 at n0_ n1_ n2_ ⊢
                    have HO_3 := n0_
                    have BK108 := n1_
                    have HB := n2_
                    clear n0_ n1_ n2_
                    have n0_ := Aside0.mk (Kd.R_drew HO_3.out)
                    have n1_ := Aside0.mk (blk_drew BK108.out)
                    have n2_ := Aside0.mk (below_drew1 HB.out)
                    clear HO_3
                    clear BK108
                    clear HB
                    have HO_3 := n0_
                    have BK108 := n1_
                    have HB := n2_
                    clear n0_ n1_ n2_
                    refine start_ (n := 7) (S := fun w' => w'.cell? ⟨gb108, 0, none⟩ = some (.int .i64 ((rd_T76 l0 x11_1).f0)) ∧ w'.cell? ⟨gb108, 1, none⟩ = some (.string ((rd_T76 l0 x11_1).f1))) (ds := []) #[false, false, false, false, false, false, false] (by kernel_rfl) rfl rfl ⟨(blk_cell BK108.out 0).trans rfl, (blk_cell BK108.out 1).trans rfl⟩ (fun hHeld => ?_)
                    generalize w38.drew = w39 at HO_3 BK108 HB hHeld ⊢
                    refine pure_ (i := 0) (N := some 15) (v := ?_) (a' := ?_) #[true, false, false, false, false, false, false] rfl rfl (by kernel_rfl) (fun _ _ _ h => h) (Or.inl ⟨by rfl, ?_⟩) ?_ ?_
                    rotate_left
                    · intro w'
                      go_simp
                      with_reducible rfl
                    rotate_left
                    · simp only [Act.put, List.setIfInBounds_toArray, List.set_cons_zero, List.set_cons_succ, i64_w, i32_w]
                      rfl
                    refine take_ (i := 1) (N := some 16) (v := ?_) (a' := ?_) #[true, true, false, false, false, false, false] rfl rfl (by kernel_rfl) (fun _ _ _ h => h) (Or.inl ⟨by rfl, ?_⟩) hHeld ?_ ?_
                    rotate_left
                    · rintro w' ⟨s0, s1⟩
                      go_simp
                      with_reducible rfl
                    rotate_left
                    · simp only [Act.put, List.setIfInBounds_toArray, List.set_cons_zero, List.set_cons_succ, i64_w, i32_w]
                      rfl
                    refine one_ (i := 2) (N := some 17) #[true, true, true, false, false, false, false] rfl rfl (by kernel_rfl) (by decide) (fun K hK => ?_)
                    refine goes_ Tryd.func33 (by kernel_rfl) rfl #[] (by rfl) rfl rfl (by (try simp only [List.map_toArray, List.map_cons, List.map_nil]); first | done | rfl | (simp only [List.length_drop, List.length_take]; rfl)) ?_
                    with_reducible refine (spec_LgEscapes.calls  t109 _ A7.out).mono ?_
                    rintro e w40 ⟨v110, rfl, ho0, hb⟩
                    refine ⟨_, rfl, ?_⟩
                    have n0_ := Aside0.mk (Kd.R_below (by (with_reducible repeat (first | apply Kd.R_alloc | apply Kd.R_drewN | apply Kd.R_drew)); exact HO_3.out) hb)
                    have n1_ := Aside0.mk (Kd.R_lower ho0 (below_size (by repeat (first | (with_reducible first | exact HB.out | apply below_alloc | apply pw_below_drewN | apply below_drew1 | refine below_set ?_ GE108.out) | exact HB.out))))
                    have n2_ := Aside0.mk (blk_below (g := gb108) (o := .cells #[.int .i64 ((rd_T76 l0 x11_1).f0), .string ((rd_T76 l0 x11_1).f1)] 76 (0, 0)) (by (with_reducible repeat (first | refine blk_drewN ?_ _ | refine blk_drew ?_ | refine blk_alloc ?_ _)); exact BK108.out) hb)
                    have n3_ := Aside0.mk (below_step (by repeat (first | (with_reducible first | exact HB.out | apply below_alloc | apply pw_below_drewN | apply below_drew1 | refine below_set ?_ GE108.out) | exact HB.out)) hb)
                    clear HO_3
                    clear BK108
                    clear HB
                    have HO_3 := n0_
                    have HO111 := n1_
                    have BK108 := n2_
                    have HB := n3_
                    clear n0_ n1_ n2_ n3_
                    (try clear hb)
                    (try clear hb2)
                    (try clear hk)
                    (try clear hi)
                    (try clear ho0)
                    obtain ⟨Ao41, co41, eo41⟩ := Kd.R_slice HO111.out
                    (first | subst eo41 | (injection eo41 with f1_ f2_ f3_; have f4_ := f1_.symm; have f5_ := f3_.symm; clear f1_ f2_ f3_; subst f4_; subst f5_))
                    refine hK.out _ _ ⟨(blk_cell BK108.out 0).trans rfl, (blk_cell BK108.out 1).trans rfl⟩ (fun hHeld => ?_)
                    clear hK K
                    refine norm_ (a' := ?_) ?_ ?_
                    rotate_left
                    · show Act.put _ (some 17) _ = _
                      simp only [Act.put, List.setIfInBounds_toArray, List.set_cons_zero, List.set_cons_succ, i64_w, i32_w]
                      rfl
                    refine pure_ (i := 3) (N := some 18) (v := ?_) (a' := ?_) #[true, true, true, true, false, false, false] rfl rfl (by kernel_rfl) (fun _ _ _ h => h) (Or.inl ⟨by rfl, ?_⟩) ?_ ?_
                    rotate_left
                    · intro w'
                      go_simp
                      with_reducible rfl
                    rotate_left
                    · simp only [Act.put, List.setIfInBounds_toArray, List.set_cons_zero, List.set_cons_succ, i64_w, i32_w]
                      rfl
                    refine pure_ (i := 4) (N := some 19) (v := ?_) (a' := ?_) #[true, true, true, true, true, false, false] rfl rfl (by kernel_rfl) (fun _ _ _ h => h) (Or.inl ⟨by rfl, ?_⟩) ?_ ?_
                    rotate_left
                    · intro w'
                      go_simp
                      with_reducible rfl
                    rotate_left
                    · simp only [Act.put, List.setIfInBounds_toArray, List.set_cons_zero, List.set_cons_succ, i64_w, i32_w]
                      rfl
                    refine pure_ (i := 5) (N := some 20) (v := ?_) (a' := ?_) #[true, true, true, true, true, true, false] rfl rfl (by kernel_rfl) (fun _ _ _ h => h) (Or.inl ⟨by rfl, ?_⟩) ?_ ?_
                    rotate_left
                    · intro w'
                      go_simp
                      with_reducible rfl
                    rotate_left
                    · simp only [Act.put, List.setIfInBounds_toArray, List.set_cons_zero, List.set_cons_succ, i64_w, i32_w]
                      rfl
                    refine pure_ (i := 6) (N := some 7) (v := ?_) (a' := ?_) #[true, true, true, true, true, true, true] rfl rfl (by kernel_rfl) (fun _ _ _ h => h) (Or.inl ⟨by rfl, ?_⟩) ?_ ?_
                    rotate_left
                    · intro w'
                      go_simp
                      with_reducible rfl
                    rotate_left
                    · simp only [Act.put, List.setIfInBounds_toArray, List.set_cons_zero, List.set_cons_succ, i64_w, i32_w]
                      rfl
                    refine done_ (by kernel_rfl) ?_
                    have hcz42_0 : w40.cell? ⟨gb108, 0, none⟩ = some (.int .i64 ((rd_T76 l0 x11_1).f0)) := (blk_cell BK108.out 0).trans rfl
                    have hcz42_1 : w40.cell? ⟨gb108, 1, none⟩ = some (.string ((rd_T76 l0 x11_1).f1)) := (blk_cell BK108.out 1).trans rfl
                    have hfz42_0 := blk_frozen BK108.out 0
                    have hfz42_1 := blk_frozen BK108.out 1
                    try go_wp2_with (first | ((with_reducible refine gate_builtin (b := .append) (xs := #[.tmp 35, .tmp 37]) rfl ?_); at_builtin; refine Kd.R_append k76 (w0 := w) w.heap.size rfl (.tmp 35) (.tmp 37) 52 76 (.agg #[(.int .i64 0), (.string ⟨#[]⟩)]) 24 rfl Tryd.underlying52 info76 rfl (by decide) (by omega) u3 x3_1 (⟨(rd_T76 l0 x11_1).f0, (rd_T76 l0 x11_1).f1⟩ : S76) [.int .i64 ((rd_T76 l0 x11_1).f0), .string ((rd_T76 l0 x11_1).f1)] (fun k_ => k_ ≠ gb108) (fun _ => False) rfl rfl ?aP (fun _ hk => hk.elim) ?aF ?aO ?aB ?aS ?aL ?_; (case aP => exact k76_mkM _ _ _ (⟨(rd_T76 l0 x11_1).f0, (rd_T76 l0 x11_1).f1⟩ : S76)); (case aB => exact (by repeat (first | (with_reducible first | exact HB.out | apply below_alloc | apply pw_below_drewN | apply below_drew1 | refine below_set ?_ GE108.out) | exact HB.out))); (case aF => exact (fun k_ hk => Kd.freshB (g := gb108) (o := .cells #[.int .i64 ((rd_T76 l0 x11_1).f0), .string ((rd_T76 l0 x11_1).f1)] 76 (0, 0)) (by (with_reducible repeat (first | refine blk_drewN ?_ _ | refine blk_drew ?_ | refine blk_alloc ?_ _)); exact BK108.out) k_ hk)); (case aO => exact (by (with_reducible repeat (first | apply Kd.R_alloc | apply Kd.R_drewN | apply Kd.R_drew)); exact HO_3.out)); (case aS => exact (below_size (by repeat (first | (with_reducible first | exact HB.out | apply below_alloc | apply pw_below_drewN | apply below_drew1 | refine below_set ?_ GE108.out) | exact HB.out)))); (case aL => have := LMc35.out; omega); intro v116 w43 ho hb hg hat; rw [← Ny115.out] at ho; have n0_ := Aside0.mk (blk_grown (g := gb108) (o := .cells #[.int .i64 ((rd_T76 l0 x11_1).f0), .string ((rd_T76 l0 x11_1).f1)] 76 (0, 0)) (by (with_reducible repeat (first | refine blk_drewN ?_ _ | refine blk_drew ?_ | refine blk_alloc ?_ _)); exact BK108.out) hg (Kd.R_away HO_3.out (fun _ hk => hk))); have n1_ := Aside0.mk (Kd.R_over' (by (with_reducible repeat (first | apply Kd.R_alloc | apply Kd.R_drewN | apply Kd.R_drew)); exact HO111.out) (Kd.R_typed (by (with_reducible repeat (first | apply Kd.R_alloc | apply Kd.R_drewN | apply Kd.R_drew)); exact HO_3.out)) (by decide) hg); have n2_ := Aside0.mk (hb); have n3_ := Aside0.mk (ho); clear BK108; clear HO111; clear HB; clear HO_3; have BK108 := n0_; have HO111 := n1_; have HB := n2_; have HO117 := n3_; clear n0_ n1_ n2_ n3_; clear ho hb hg hat))
                    go_roundg k1
                    case measure => have := HK1.out; omega
                    case rel => exact ⟨(y115), ((((rd_T76 l0 x11_1).f0) == (wrap64 ((t109.length : Int) - 1)))), (wrap64 (x11_1 + 1)), (by first | rfl | (simp; done) | (simp [*]; done)), (by first | rfl | (simp; done) | (simp [*]; done)), H', ⟨by have := HK1.out; omega⟩, ⟨by (with_reducible repeat (first | apply Kd.R_alloc | apply Kd.R_drewN | apply Kd.R_drew)); exact Kd.R_mono HO117.out (fun _ hk => trivial)⟩, ⟨by repeat (first | (with_reducible first | exact HB.out | apply below_alloc | apply pw_below_drewN | apply below_drew1 | refine below_set ?_ GE108.out) | exact HB.out)⟩⟩
                  · rw [if_neg c35] at H
                    exact absurd H (by simp)
            · rw [if_neg c8] at H
              have c8b0 : decide (((rd_T76 l0 x11_1).f0) < 0) = false := decide_eq_false c8
              clear c8
              by_cases c44 : ((rd_T76 l0 x11_1).f0) = (wrap64 ((t109.length : Int) - 1))
              · rw [if_pos c44] at H
                have c44b0 : (((rd_T76 l0 x11_1).f0) == (wrap64 ((t109.length : Int) - 1))) = true := beq_iff_eq.mpr c44
                have c44b1 : (((rd_T76 l0 x11_1).f0) != (wrap64 ((t109.length : Int) - 1))) = false := bne_eq_false_iff_eq.mpr c44
                clear c44
                by_cases c45 : x4_1 = true
                · subst c45
                  have H1 : (spec_lgOnes.l0 k1 x3_1 true l0 (l0.length : Int) (wrap64 (x11_1 + 1))) = some r := by rw [if_pos rfl] at H; exact H
                  clear H
                  have H := H1
                  clear H1
                  have H' := Aside0.mk H
                  clear H
                  have p107 : 0 ≤ (x11_1 : Int) := of_decide_eq_true (by first | (with_reducible assumption) | assumption)
                  have q107 : x11_1 < (l0.length : Int) := of_decide_eq_true (by first | (with_reducible assumption) | assumption)
                  obtain ⟨ad107, e107, hx107_0, hx107_1⟩ := at_T76 HR0.out x11_1 p107 q107
                  cases e107
                  replace hx107_0 := (HB.out.cell (World.block_lt_of_cell? w _ hx107_0)).trans hx107_0
                  replace hx107_1 := (HB.out.cell (World.block_lt_of_cell? w _ hx107_1)).trans hx107_1
                  replace p107 := eq_true p107
                  replace q107 := eq_true q107
                  try go_wp2_with (first | ((with_reducible refine gate_dst (N := 6) rfl ?_); refine box_event ?hg (N := 6) ?hd (cs := #[.int .i64 0, .string (⟨#[]⟩ : ByteArray)]) (t := 76) ?hr ?_; (case hd => rfl); (case hg => rfl); (case hr => first | (go_simp; done) | (go_simp; rfl)); intro gb108 hg w46 hbox hb; have n0_ := Aside0.mk (Kd.R_below (Kd.R_elderB (by (with_reducible repeat (first | apply Kd.R_alloc | apply Kd.R_drewN | apply Kd.R_drew)); exact HO_3.out) gb108 (Nat.le_of_eq hg.symm)) hb); have n1_ := Aside0.mk (below_step (by repeat (first | (with_reducible first | exact HB.out | apply below_alloc | apply pw_below_drewN | apply below_drew1) | exact HB.out)) hb); have n2_ := Aside0.mk (hbox); have n3_ := Aside0.mk ((by rw [hg]; exact (below_size (by repeat (first | (with_reducible first | exact HB.out | apply below_alloc | apply pw_below_drewN | apply below_drew1) | exact HB.out))) : w.heap.size ≤ gb108)); have n4_ := Aside0.mk ((by rw [hg]; exact (below_size (by repeat (first | (with_reducible first | exact HB.out | apply below_alloc | apply pw_below_drewN | apply below_drew1) | exact HB.out))) : w.heap.size ≤ gb108)); clear HO_3; clear HB; have HO_3 := n0_; have HB := n1_; have BK108 := n2_; have GW108 := n3_; have GE108 := n4_; clear n0_ n1_ n2_ n3_ n4_; clear hb hbox hg; have hcz47_0 : w46.cell? ⟨gb108, 0, none⟩ = some (.int .i64 0) := (blk_cell BK108.out 0).trans rfl; have hcz47_1 : w46.cell? ⟨gb108, 1, none⟩ = some (.string (⟨#[]⟩ : ByteArray)) := (blk_cell BK108.out 1).trans rfl; have hfz47_0 := blk_frozen BK108.out 0; have hfz47_1 := blk_frozen BK108.out 1))
                  have n0_ : Aside0 (Kd.R k76 76 ((w46.setCell ⟨gb108, 0, none⟩ (.int .i64 ((rd_T76 l0 x11_1).f0))).setCell ⟨gb108, 1, none⟩ (.string ((rd_T76 l0 x11_1).f1))) w.heap.size (fun k_ => k_ ≠ gb108) u3 x3_1) := ⟨by (with_reducible repeat (first | apply Kd.R_alloc | apply Kd.R_drewN | apply Kd.R_drew)); exact Kd.R_mono (Kd.R_far (p := ⟨gb108, 1, none⟩) (Kd.R_far (p := ⟨gb108, 0, none⟩) (Kd.R_mono HO_3.out (fun k_ hk => (⟨hk, hk.2⟩ : _ ∧ k_ ≠ gb108))) (fun _ hk => hk.2) (.int .i64 ((rd_T76 l0 x11_1).f0))) (fun _ hk => hk.2) (.string ((rd_T76 l0 x11_1).f1))) (fun _ hk => hk.1.2)⟩
                  have n1_ : Aside0 (((w46.setCell ⟨gb108, 0, none⟩ (.int .i64 ((rd_T76 l0 x11_1).f0))).setCell ⟨gb108, 1, none⟩ (.string ((rd_T76 l0 x11_1).f1))).heap[gb108]? = some (.cells #[.int .i64 ((rd_T76 l0 x11_1).f0), .string ((rd_T76 l0 x11_1).f1)] 76 (0, 0))) := ⟨by (with_reducible repeat (first | refine blk_drewN ?_ _ | refine blk_drew ?_ | refine blk_alloc ?_ _)); refine blk_put (cs := #[.int .i64 ((rd_T76 l0 x11_1).f0), .string (⟨#[]⟩ : ByteArray)]) ?_ 1 _ rfl; (with_reducible repeat (first | refine blk_drewN ?_ _ | refine blk_drew ?_ | refine blk_alloc ?_ _)); refine blk_put (cs := #[.int .i64 0, .string (⟨#[]⟩ : ByteArray)]) ?_ 0 _ rfl; (with_reducible repeat (first | refine blk_drewN ?_ _ | refine blk_drew ?_ | refine blk_alloc ?_ _)); exact BK108.out⟩
                  have n2_ : Aside0 (Below w.heap.size w ((w46.setCell ⟨gb108, 0, none⟩ (.int .i64 ((rd_T76 l0 x11_1).f0))).setCell ⟨gb108, 1, none⟩ (.string ((rd_T76 l0 x11_1).f1)))) := ⟨by repeat (first | (with_reducible first | exact HB.out | apply below_alloc | apply pw_below_drewN | apply below_drew1 | refine below_set ?_ GE108.out) | exact HB.out)⟩
                  (try clear HO_3)
                  (try clear BK108)
                  (try clear HB)
                  generalize ((w46.setCell ⟨gb108, 0, none⟩ (.int .i64 ((rd_T76 l0 x11_1).f0))).setCell ⟨gb108, 1, none⟩ (.string ((rd_T76 l0 x11_1).f1))) = w48 at n0_ n1_ n2_ ⊢
                  have HO_3 := n0_
                  have BK108 := n1_
                  have HB := n2_
                  clear n0_ n1_ n2_
                  have n0_ := Aside0.mk (Kd.R_drew HO_3.out)
                  have n1_ := Aside0.mk (blk_drew BK108.out)
                  have n2_ := Aside0.mk (below_drew1 HB.out)
                  clear HO_3
                  clear BK108
                  clear HB
                  have HO_3 := n0_
                  have BK108 := n1_
                  have HB := n2_
                  clear n0_ n1_ n2_
                  refine start_ (n := 7) (S := fun w' => w'.cell? ⟨gb108, 0, none⟩ = some (.int .i64 ((rd_T76 l0 x11_1).f0)) ∧ w'.cell? ⟨gb108, 1, none⟩ = some (.string ((rd_T76 l0 x11_1).f1))) (ds := []) #[false, false, false, false, false, false, false] (by kernel_rfl) rfl rfl ⟨(blk_cell BK108.out 0).trans rfl, (blk_cell BK108.out 1).trans rfl⟩ (fun hHeld => ?_)
                  generalize w48.drew = w49 at HO_3 BK108 HB hHeld ⊢
                  refine pure_ (i := 0) (N := some 15) (v := ?_) (a' := ?_) #[true, false, false, false, false, false, false] rfl rfl (by kernel_rfl) (fun _ _ _ h => h) (Or.inl ⟨by rfl, ?_⟩) ?_ ?_
                  rotate_left
                  · intro w'
                    go_simp
                    with_reducible rfl
                  rotate_left
                  · simp only [Act.put, List.setIfInBounds_toArray, List.set_cons_zero, List.set_cons_succ, i64_w, i32_w]
                    rfl
                  refine take_ (i := 1) (N := some 16) (v := ?_) (a' := ?_) #[true, true, false, false, false, false, false] rfl rfl (by kernel_rfl) (fun _ _ _ h => h) (Or.inl ⟨by rfl, ?_⟩) hHeld ?_ ?_
                  rotate_left
                  · rintro w' ⟨s0, s1⟩
                    go_simp
                    with_reducible rfl
                  rotate_left
                  · simp only [Act.put, List.setIfInBounds_toArray, List.set_cons_zero, List.set_cons_succ, i64_w, i32_w]
                    rfl
                  refine one_ (i := 2) (N := some 17) #[true, true, true, false, false, false, false] rfl rfl (by kernel_rfl) (by decide) (fun K hK => ?_)
                  refine goes_ Tryd.func33 (by kernel_rfl) rfl #[] (by rfl) rfl rfl (by (try simp only [List.map_toArray, List.map_cons, List.map_nil]); first | done | rfl | (simp only [List.length_drop, List.length_take]; rfl)) ?_
                  with_reducible refine (spec_LgEscapes.calls  t109 _ A7.out).mono ?_
                  rintro e w50 ⟨v110, rfl, ho0, hb⟩
                  refine ⟨_, rfl, ?_⟩
                  have n0_ := Aside0.mk (Kd.R_below (by (with_reducible repeat (first | apply Kd.R_alloc | apply Kd.R_drewN | apply Kd.R_drew)); exact HO_3.out) hb)
                  have n1_ := Aside0.mk (Kd.R_lower ho0 (below_size (by repeat (first | (with_reducible first | exact HB.out | apply below_alloc | apply pw_below_drewN | apply below_drew1 | refine below_set ?_ GE108.out) | exact HB.out))))
                  have n2_ := Aside0.mk (blk_below (g := gb108) (o := .cells #[.int .i64 ((rd_T76 l0 x11_1).f0), .string ((rd_T76 l0 x11_1).f1)] 76 (0, 0)) (by (with_reducible repeat (first | refine blk_drewN ?_ _ | refine blk_drew ?_ | refine blk_alloc ?_ _)); exact BK108.out) hb)
                  have n3_ := Aside0.mk (below_step (by repeat (first | (with_reducible first | exact HB.out | apply below_alloc | apply pw_below_drewN | apply below_drew1 | refine below_set ?_ GE108.out) | exact HB.out)) hb)
                  clear HO_3
                  clear BK108
                  clear HB
                  have HO_3 := n0_
                  have HO111 := n1_
                  have BK108 := n2_
                  have HB := n3_
                  clear n0_ n1_ n2_ n3_
                  (try clear hb)
                  (try clear hb2)
                  (try clear hk)
                  (try clear hi)
                  (try clear ho0)
                  obtain ⟨Ao51, co51, eo51⟩ := Kd.R_slice HO111.out
                  (first | subst eo51 | (injection eo51 with f1_ f2_ f3_; have f4_ := f1_.symm; have f5_ := f3_.symm; clear f1_ f2_ f3_; subst f4_; subst f5_))
                  refine hK.out _ _ ⟨(blk_cell BK108.out 0).trans rfl, (blk_cell BK108.out 1).trans rfl⟩ (fun hHeld => ?_)
                  clear hK K
                  refine norm_ (a' := ?_) ?_ ?_
                  rotate_left
                  · show Act.put _ (some 17) _ = _
                    simp only [Act.put, List.setIfInBounds_toArray, List.set_cons_zero, List.set_cons_succ, i64_w, i32_w]
                    rfl
                  refine pure_ (i := 3) (N := some 18) (v := ?_) (a' := ?_) #[true, true, true, true, false, false, false] rfl rfl (by kernel_rfl) (fun _ _ _ h => h) (Or.inl ⟨by rfl, ?_⟩) ?_ ?_
                  rotate_left
                  · intro w'
                    go_simp
                    with_reducible rfl
                  rotate_left
                  · simp only [Act.put, List.setIfInBounds_toArray, List.set_cons_zero, List.set_cons_succ, i64_w, i32_w]
                    rfl
                  refine pure_ (i := 4) (N := some 19) (v := ?_) (a' := ?_) #[true, true, true, true, true, false, false] rfl rfl (by kernel_rfl) (fun _ _ _ h => h) (Or.inl ⟨by rfl, ?_⟩) ?_ ?_
                  rotate_left
                  · intro w'
                    go_simp
                    with_reducible rfl
                  rotate_left
                  · simp only [Act.put, List.setIfInBounds_toArray, List.set_cons_zero, List.set_cons_succ, i64_w, i32_w]
                    rfl
                  refine pure_ (i := 5) (N := some 20) (v := ?_) (a' := ?_) #[true, true, true, true, true, true, false] rfl rfl (by kernel_rfl) (fun _ _ _ h => h) (Or.inl ⟨by rfl, ?_⟩) ?_ ?_
                  rotate_left
                  · intro w'
                    go_simp
                    with_reducible rfl
                  rotate_left
                  · simp only [Act.put, List.setIfInBounds_toArray, List.set_cons_zero, List.set_cons_succ, i64_w, i32_w]
                    rfl
                  refine pure_ (i := 6) (N := some 7) (v := ?_) (a' := ?_) #[true, true, true, true, true, true, true] rfl rfl (by kernel_rfl) (fun _ _ _ h => h) (Or.inl ⟨by rfl, ?_⟩) ?_ ?_
                  rotate_left
                  · intro w'
                    go_simp
                    with_reducible rfl
                  rotate_left
                  · simp only [Act.put, List.setIfInBounds_toArray, List.set_cons_zero, List.set_cons_succ, i64_w, i32_w]
                    rfl
                  refine done_ (by kernel_rfl) ?_
                  have hcz52_0 : w50.cell? ⟨gb108, 0, none⟩ = some (.int .i64 ((rd_T76 l0 x11_1).f0)) := (blk_cell BK108.out 0).trans rfl
                  have hcz52_1 : w50.cell? ⟨gb108, 1, none⟩ = some (.string ((rd_T76 l0 x11_1).f1)) := (blk_cell BK108.out 1).trans rfl
                  have hfz52_0 := blk_frozen BK108.out 0
                  have hfz52_1 := blk_frozen BK108.out 1
                  try go_wp2
                  go_roundg k1
                  case measure => have := HK1.out; omega
                  case rel => exact ⟨(x3_1), (true), (wrap64 (x11_1 + 1)), (by first | rfl | (simp; done) | (simp [*]; done)), (by first | rfl | (simp; done) | (simp [*]; done)), H', ⟨by have := HK1.out; omega⟩, ⟨by (with_reducible repeat (first | apply Kd.R_alloc | apply Kd.R_drewN | apply Kd.R_drew)); exact Kd.R_mono HO_3.out (fun _ hk => trivial)⟩, ⟨by repeat (first | (with_reducible first | exact HB.out | apply below_alloc | apply pw_below_drewN | apply below_drew1 | refine below_set ?_ GE108.out) | exact HB.out)⟩⟩
                · replace c45 := Bool.eq_false_iff.mpr c45
                  subst c45
                  have H1 : (if x3_1.length < 5864062014805 then (spec_lgOnes.l0 k1 (x3_1 ++ [(⟨(rd_T76 l0 x11_1).f0, (rd_T76 l0 x11_1).f1⟩ : S76)]) (((rd_T76 l0 x11_1).f0) == (wrap64 ((t109.length : Int) - 1))) l0 (l0.length : Int) (wrap64 (x11_1 + 1))) else (none)) = some r := by rw [if_neg (show ¬ (false = true) by decide)] at H; exact H
                  clear H
                  have H := H1
                  clear H1
                  by_cases c53 : x3_1.length < 5864062014805
                  · rw [if_pos c53] at H
                    have LMc53 := Aside0.mk c53
                    clear c53
                    obtain ⟨y118, hy118⟩ : ∃ y_ : List (S76), y_ = (x3_1 ++ [(⟨(rd_T76 l0 x11_1).f0, (rd_T76 l0 x11_1).f1⟩ : S76)]) := ⟨_, rfl⟩
                    replace H : (spec_lgOnes.l0 k1 y118 (((rd_T76 l0 x11_1).f0) == (wrap64 ((t109.length : Int) - 1))) l0 (l0.length : Int) (wrap64 (x11_1 + 1))) = some r := by first | (rw [hy118]; with_reducible exact H) | (have H2_ := (Option.bind_some _ _).symm.trans H; rw [hy118]; with_reducible exact H2_) | (have H2_ := (Option.bind_some _ _).symm.trans H; with_reducible exact H2_) | with_reducible exact H | (rw [hy118]; exact H) | exact H
                    have Ny118 := Aside0.mk hy118
                    clear hy118
                    have H' := Aside0.mk H
                    clear H
                    have p107 : 0 ≤ (x11_1 : Int) := of_decide_eq_true (by first | (with_reducible assumption) | assumption)
                    have q107 : x11_1 < (l0.length : Int) := of_decide_eq_true (by first | (with_reducible assumption) | assumption)
                    obtain ⟨ad107, e107, hx107_0, hx107_1⟩ := at_T76 HR0.out x11_1 p107 q107
                    cases e107
                    replace hx107_0 := (HB.out.cell (World.block_lt_of_cell? w _ hx107_0)).trans hx107_0
                    replace hx107_1 := (HB.out.cell (World.block_lt_of_cell? w _ hx107_1)).trans hx107_1
                    replace p107 := eq_true p107
                    replace q107 := eq_true q107
                    try go_wp2_with (first | ((with_reducible refine gate_dst (N := 6) rfl ?_); refine box_event ?hg (N := 6) ?hd (cs := #[.int .i64 0, .string (⟨#[]⟩ : ByteArray)]) (t := 76) ?hr ?_; (case hd => rfl); (case hg => rfl); (case hr => first | (go_simp; done) | (go_simp; rfl)); intro gb108 hg w54 hbox hb; have n0_ := Aside0.mk (Kd.R_below (Kd.R_elderB (by (with_reducible repeat (first | apply Kd.R_alloc | apply Kd.R_drewN | apply Kd.R_drew)); exact HO_3.out) gb108 (Nat.le_of_eq hg.symm)) hb); have n1_ := Aside0.mk (below_step (by repeat (first | (with_reducible first | exact HB.out | apply below_alloc | apply pw_below_drewN | apply below_drew1) | exact HB.out)) hb); have n2_ := Aside0.mk (hbox); have n3_ := Aside0.mk ((by rw [hg]; exact (below_size (by repeat (first | (with_reducible first | exact HB.out | apply below_alloc | apply pw_below_drewN | apply below_drew1) | exact HB.out))) : w.heap.size ≤ gb108)); have n4_ := Aside0.mk ((by rw [hg]; exact (below_size (by repeat (first | (with_reducible first | exact HB.out | apply below_alloc | apply pw_below_drewN | apply below_drew1) | exact HB.out))) : w.heap.size ≤ gb108)); clear HO_3; clear HB; have HO_3 := n0_; have HB := n1_; have BK108 := n2_; have GW108 := n3_; have GE108 := n4_; clear n0_ n1_ n2_ n3_ n4_; clear hb hbox hg; have hcz55_0 : w54.cell? ⟨gb108, 0, none⟩ = some (.int .i64 0) := (blk_cell BK108.out 0).trans rfl; have hcz55_1 : w54.cell? ⟨gb108, 1, none⟩ = some (.string (⟨#[]⟩ : ByteArray)) := (blk_cell BK108.out 1).trans rfl; have hfz55_0 := blk_frozen BK108.out 0; have hfz55_1 := blk_frozen BK108.out 1))
                    have n0_ : Aside0 (Kd.R k76 76 ((w54.setCell ⟨gb108, 0, none⟩ (.int .i64 ((rd_T76 l0 x11_1).f0))).setCell ⟨gb108, 1, none⟩ (.string ((rd_T76 l0 x11_1).f1))) w.heap.size (fun k_ => k_ ≠ gb108) u3 x3_1) := ⟨by (with_reducible repeat (first | apply Kd.R_alloc | apply Kd.R_drewN | apply Kd.R_drew)); exact Kd.R_mono (Kd.R_far (p := ⟨gb108, 1, none⟩) (Kd.R_far (p := ⟨gb108, 0, none⟩) (Kd.R_mono HO_3.out (fun k_ hk => (⟨hk, hk.2⟩ : _ ∧ k_ ≠ gb108))) (fun _ hk => hk.2) (.int .i64 ((rd_T76 l0 x11_1).f0))) (fun _ hk => hk.2) (.string ((rd_T76 l0 x11_1).f1))) (fun _ hk => hk.1.2)⟩
                    have n1_ : Aside0 (((w54.setCell ⟨gb108, 0, none⟩ (.int .i64 ((rd_T76 l0 x11_1).f0))).setCell ⟨gb108, 1, none⟩ (.string ((rd_T76 l0 x11_1).f1))).heap[gb108]? = some (.cells #[.int .i64 ((rd_T76 l0 x11_1).f0), .string ((rd_T76 l0 x11_1).f1)] 76 (0, 0))) := ⟨by (with_reducible repeat (first | refine blk_drewN ?_ _ | refine blk_drew ?_ | refine blk_alloc ?_ _)); refine blk_put (cs := #[.int .i64 ((rd_T76 l0 x11_1).f0), .string (⟨#[]⟩ : ByteArray)]) ?_ 1 _ rfl; (with_reducible repeat (first | refine blk_drewN ?_ _ | refine blk_drew ?_ | refine blk_alloc ?_ _)); refine blk_put (cs := #[.int .i64 0, .string (⟨#[]⟩ : ByteArray)]) ?_ 0 _ rfl; (with_reducible repeat (first | refine blk_drewN ?_ _ | refine blk_drew ?_ | refine blk_alloc ?_ _)); exact BK108.out⟩
                    have n2_ : Aside0 (Below w.heap.size w ((w54.setCell ⟨gb108, 0, none⟩ (.int .i64 ((rd_T76 l0 x11_1).f0))).setCell ⟨gb108, 1, none⟩ (.string ((rd_T76 l0 x11_1).f1)))) := ⟨by repeat (first | (with_reducible first | exact HB.out | apply below_alloc | apply pw_below_drewN | apply below_drew1 | refine below_set ?_ GE108.out) | exact HB.out)⟩
                    (try clear HO_3)
                    (try clear BK108)
                    (try clear HB)
                    generalize ((w54.setCell ⟨gb108, 0, none⟩ (.int .i64 ((rd_T76 l0 x11_1).f0))).setCell ⟨gb108, 1, none⟩ (.string ((rd_T76 l0 x11_1).f1))) = w56 at n0_ n1_ n2_ ⊢
                    have HO_3 := n0_
                    have BK108 := n1_
                    have HB := n2_
                    clear n0_ n1_ n2_
                    have n0_ := Aside0.mk (Kd.R_drew HO_3.out)
                    have n1_ := Aside0.mk (blk_drew BK108.out)
                    have n2_ := Aside0.mk (below_drew1 HB.out)
                    clear HO_3
                    clear BK108
                    clear HB
                    have HO_3 := n0_
                    have BK108 := n1_
                    have HB := n2_
                    clear n0_ n1_ n2_
                    refine start_ (n := 7) (S := fun w' => w'.cell? ⟨gb108, 0, none⟩ = some (.int .i64 ((rd_T76 l0 x11_1).f0)) ∧ w'.cell? ⟨gb108, 1, none⟩ = some (.string ((rd_T76 l0 x11_1).f1))) (ds := []) #[false, false, false, false, false, false, false] (by kernel_rfl) rfl rfl ⟨(blk_cell BK108.out 0).trans rfl, (blk_cell BK108.out 1).trans rfl⟩ (fun hHeld => ?_)
                    generalize w56.drew = w57 at HO_3 BK108 HB hHeld ⊢
                    refine pure_ (i := 0) (N := some 15) (v := ?_) (a' := ?_) #[true, false, false, false, false, false, false] rfl rfl (by kernel_rfl) (fun _ _ _ h => h) (Or.inl ⟨by rfl, ?_⟩) ?_ ?_
                    rotate_left
                    · intro w'
                      go_simp
                      with_reducible rfl
                    rotate_left
                    · simp only [Act.put, List.setIfInBounds_toArray, List.set_cons_zero, List.set_cons_succ, i64_w, i32_w]
                      rfl
                    refine take_ (i := 1) (N := some 16) (v := ?_) (a' := ?_) #[true, true, false, false, false, false, false] rfl rfl (by kernel_rfl) (fun _ _ _ h => h) (Or.inl ⟨by rfl, ?_⟩) hHeld ?_ ?_
                    rotate_left
                    · rintro w' ⟨s0, s1⟩
                      go_simp
                      with_reducible rfl
                    rotate_left
                    · simp only [Act.put, List.setIfInBounds_toArray, List.set_cons_zero, List.set_cons_succ, i64_w, i32_w]
                      rfl
                    refine one_ (i := 2) (N := some 17) #[true, true, true, false, false, false, false] rfl rfl (by kernel_rfl) (by decide) (fun K hK => ?_)
                    refine goes_ Tryd.func33 (by kernel_rfl) rfl #[] (by rfl) rfl rfl (by (try simp only [List.map_toArray, List.map_cons, List.map_nil]); first | done | rfl | (simp only [List.length_drop, List.length_take]; rfl)) ?_
                    with_reducible refine (spec_LgEscapes.calls  t109 _ A7.out).mono ?_
                    rintro e w58 ⟨v110, rfl, ho0, hb⟩
                    refine ⟨_, rfl, ?_⟩
                    have n0_ := Aside0.mk (Kd.R_below (by (with_reducible repeat (first | apply Kd.R_alloc | apply Kd.R_drewN | apply Kd.R_drew)); exact HO_3.out) hb)
                    have n1_ := Aside0.mk (Kd.R_lower ho0 (below_size (by repeat (first | (with_reducible first | exact HB.out | apply below_alloc | apply pw_below_drewN | apply below_drew1 | refine below_set ?_ GE108.out) | exact HB.out))))
                    have n2_ := Aside0.mk (blk_below (g := gb108) (o := .cells #[.int .i64 ((rd_T76 l0 x11_1).f0), .string ((rd_T76 l0 x11_1).f1)] 76 (0, 0)) (by (with_reducible repeat (first | refine blk_drewN ?_ _ | refine blk_drew ?_ | refine blk_alloc ?_ _)); exact BK108.out) hb)
                    have n3_ := Aside0.mk (below_step (by repeat (first | (with_reducible first | exact HB.out | apply below_alloc | apply pw_below_drewN | apply below_drew1 | refine below_set ?_ GE108.out) | exact HB.out)) hb)
                    clear HO_3
                    clear BK108
                    clear HB
                    have HO_3 := n0_
                    have HO111 := n1_
                    have BK108 := n2_
                    have HB := n3_
                    clear n0_ n1_ n2_ n3_
                    (try clear hb)
                    (try clear hb2)
                    (try clear hk)
                    (try clear hi)
                    (try clear ho0)
                    obtain ⟨Ao59, co59, eo59⟩ := Kd.R_slice HO111.out
                    (first | subst eo59 | (injection eo59 with f1_ f2_ f3_; have f4_ := f1_.symm; have f5_ := f3_.symm; clear f1_ f2_ f3_; subst f4_; subst f5_))
                    refine hK.out _ _ ⟨(blk_cell BK108.out 0).trans rfl, (blk_cell BK108.out 1).trans rfl⟩ (fun hHeld => ?_)
                    clear hK K
                    refine norm_ (a' := ?_) ?_ ?_
                    rotate_left
                    · show Act.put _ (some 17) _ = _
                      simp only [Act.put, List.setIfInBounds_toArray, List.set_cons_zero, List.set_cons_succ, i64_w, i32_w]
                      rfl
                    refine pure_ (i := 3) (N := some 18) (v := ?_) (a' := ?_) #[true, true, true, true, false, false, false] rfl rfl (by kernel_rfl) (fun _ _ _ h => h) (Or.inl ⟨by rfl, ?_⟩) ?_ ?_
                    rotate_left
                    · intro w'
                      go_simp
                      with_reducible rfl
                    rotate_left
                    · simp only [Act.put, List.setIfInBounds_toArray, List.set_cons_zero, List.set_cons_succ, i64_w, i32_w]
                      rfl
                    refine pure_ (i := 4) (N := some 19) (v := ?_) (a' := ?_) #[true, true, true, true, true, false, false] rfl rfl (by kernel_rfl) (fun _ _ _ h => h) (Or.inl ⟨by rfl, ?_⟩) ?_ ?_
                    rotate_left
                    · intro w'
                      go_simp
                      with_reducible rfl
                    rotate_left
                    · simp only [Act.put, List.setIfInBounds_toArray, List.set_cons_zero, List.set_cons_succ, i64_w, i32_w]
                      rfl
                    refine pure_ (i := 5) (N := some 20) (v := ?_) (a' := ?_) #[true, true, true, true, true, true, false] rfl rfl (by kernel_rfl) (fun _ _ _ h => h) (Or.inl ⟨by rfl, ?_⟩) ?_ ?_
                    rotate_left
                    · intro w'
                      go_simp
                      with_reducible rfl
                    rotate_left
                    · simp only [Act.put, List.setIfInBounds_toArray, List.set_cons_zero, List.set_cons_succ, i64_w, i32_w]
                      rfl
                    refine pure_ (i := 6) (N := some 7) (v := ?_) (a' := ?_) #[true, true, true, true, true, true, true] rfl rfl (by kernel_rfl) (fun _ _ _ h => h) (Or.inl ⟨by rfl, ?_⟩) ?_ ?_
                    rotate_left
                    · intro w'
                      go_simp
                      with_reducible rfl
                    rotate_left
                    · simp only [Act.put, List.setIfInBounds_toArray, List.set_cons_zero, List.set_cons_succ, i64_w, i32_w]
                      rfl
                    refine done_ (by kernel_rfl) ?_
                    have hcz60_0 : w58.cell? ⟨gb108, 0, none⟩ = some (.int .i64 ((rd_T76 l0 x11_1).f0)) := (blk_cell BK108.out 0).trans rfl
                    have hcz60_1 : w58.cell? ⟨gb108, 1, none⟩ = some (.string ((rd_T76 l0 x11_1).f1)) := (blk_cell BK108.out 1).trans rfl
                    have hfz60_0 := blk_frozen BK108.out 0
                    have hfz60_1 := blk_frozen BK108.out 1
                    try go_wp2_with (first | ((with_reducible refine gate_builtin (b := .append) (xs := #[.tmp 35, .tmp 37]) rfl ?_); at_builtin; refine Kd.R_append k76 (w0 := w) w.heap.size rfl (.tmp 35) (.tmp 37) 52 76 (.agg #[(.int .i64 0), (.string ⟨#[]⟩)]) 24 rfl Tryd.underlying52 info76 rfl (by decide) (by omega) u3 x3_1 (⟨(rd_T76 l0 x11_1).f0, (rd_T76 l0 x11_1).f1⟩ : S76) [.int .i64 ((rd_T76 l0 x11_1).f0), .string ((rd_T76 l0 x11_1).f1)] (fun k_ => k_ ≠ gb108) (fun _ => False) rfl rfl ?aP (fun _ hk => hk.elim) ?aF ?aO ?aB ?aS ?aL ?_; (case aP => exact k76_mkM _ _ _ (⟨(rd_T76 l0 x11_1).f0, (rd_T76 l0 x11_1).f1⟩ : S76)); (case aB => exact (by repeat (first | (with_reducible first | exact HB.out | apply below_alloc | apply pw_below_drewN | apply below_drew1 | refine below_set ?_ GE108.out) | exact HB.out))); (case aF => exact (fun k_ hk => Kd.freshB (g := gb108) (o := .cells #[.int .i64 ((rd_T76 l0 x11_1).f0), .string ((rd_T76 l0 x11_1).f1)] 76 (0, 0)) (by (with_reducible repeat (first | refine blk_drewN ?_ _ | refine blk_drew ?_ | refine blk_alloc ?_ _)); exact BK108.out) k_ hk)); (case aO => exact (by (with_reducible repeat (first | apply Kd.R_alloc | apply Kd.R_drewN | apply Kd.R_drew)); exact HO_3.out)); (case aS => exact (below_size (by repeat (first | (with_reducible first | exact HB.out | apply below_alloc | apply pw_below_drewN | apply below_drew1 | refine below_set ?_ GE108.out) | exact HB.out)))); (case aL => have := LMc53.out; omega); intro v119 w61 ho hb hg hat; rw [← Ny118.out] at ho; have n0_ := Aside0.mk (blk_grown (g := gb108) (o := .cells #[.int .i64 ((rd_T76 l0 x11_1).f0), .string ((rd_T76 l0 x11_1).f1)] 76 (0, 0)) (by (with_reducible repeat (first | refine blk_drewN ?_ _ | refine blk_drew ?_ | refine blk_alloc ?_ _)); exact BK108.out) hg (Kd.R_away HO_3.out (fun _ hk => hk))); have n1_ := Aside0.mk (Kd.R_over' (by (with_reducible repeat (first | apply Kd.R_alloc | apply Kd.R_drewN | apply Kd.R_drew)); exact HO111.out) (Kd.R_typed (by (with_reducible repeat (first | apply Kd.R_alloc | apply Kd.R_drewN | apply Kd.R_drew)); exact HO_3.out)) (by decide) hg); have n2_ := Aside0.mk (hb); have n3_ := Aside0.mk (ho); clear BK108; clear HO111; clear HB; clear HO_3; have BK108 := n0_; have HO111 := n1_; have HB := n2_; have HO120 := n3_; clear n0_ n1_ n2_ n3_; clear ho hb hg hat))
                    go_roundg k1
                    case measure => have := HK1.out; omega
                    case rel => exact ⟨(y118), ((((rd_T76 l0 x11_1).f0) == (wrap64 ((t109.length : Int) - 1)))), (wrap64 (x11_1 + 1)), (by first | rfl | (simp; done) | (simp [*]; done)), (by first | rfl | (simp; done) | (simp [*]; done)), H', ⟨by have := HK1.out; omega⟩, ⟨by (with_reducible repeat (first | apply Kd.R_alloc | apply Kd.R_drewN | apply Kd.R_drew)); exact Kd.R_mono HO120.out (fun _ hk => trivial)⟩, ⟨by repeat (first | (with_reducible first | exact HB.out | apply below_alloc | apply pw_below_drewN | apply below_drew1 | refine below_set ?_ GE108.out) | exact HB.out)⟩⟩
                  · rw [if_neg c53] at H
                    exact absurd H (by simp)
              · rw [if_neg c44] at H
                have c44b0 : (((rd_T76 l0 x11_1).f0) == (wrap64 ((t109.length : Int) - 1))) = false := beq_eq_false_iff_ne.mpr c44
                have c44b1 : (((rd_T76 l0 x11_1).f0) != (wrap64 ((t109.length : Int) - 1))) = true := bne_iff_ne.mpr c44
                by_cases c62 : x3_1.length < 5864062014805
                · rw [if_pos c62] at H
                  have LMc62 := Aside0.mk c62
                  clear c62
                  obtain ⟨y121, hy121⟩ : ∃ y_ : List (S76), y_ = (x3_1 ++ [(⟨(rd_T76 l0 x11_1).f0, (rd_T76 l0 x11_1).f1⟩ : S76)]) := ⟨_, rfl⟩
                  replace H : (spec_lgOnes.l0 k1 y121 (((rd_T76 l0 x11_1).f0) == (wrap64 ((t109.length : Int) - 1))) l0 (l0.length : Int) (wrap64 (x11_1 + 1))) = some r := by first | (rw [hy121]; with_reducible exact H) | (have H2_ := (Option.bind_some _ _).symm.trans H; rw [hy121]; with_reducible exact H2_) | (have H2_ := (Option.bind_some _ _).symm.trans H; with_reducible exact H2_) | with_reducible exact H | (rw [hy121]; exact H) | exact H
                  have Ny121 := Aside0.mk hy121
                  clear hy121
                  have H' := Aside0.mk H
                  clear H
                  have p107 : 0 ≤ (x11_1 : Int) := of_decide_eq_true (by first | (with_reducible assumption) | assumption)
                  have q107 : x11_1 < (l0.length : Int) := of_decide_eq_true (by first | (with_reducible assumption) | assumption)
                  obtain ⟨ad107, e107, hx107_0, hx107_1⟩ := at_T76 HR0.out x11_1 p107 q107
                  cases e107
                  replace hx107_0 := (HB.out.cell (World.block_lt_of_cell? w _ hx107_0)).trans hx107_0
                  replace hx107_1 := (HB.out.cell (World.block_lt_of_cell? w _ hx107_1)).trans hx107_1
                  replace p107 := eq_true p107
                  replace q107 := eq_true q107
                  try go_wp2_with (first | ((with_reducible refine gate_dst (N := 6) rfl ?_); refine box_event ?hg (N := 6) ?hd (cs := #[.int .i64 0, .string (⟨#[]⟩ : ByteArray)]) (t := 76) ?hr ?_; (case hd => rfl); (case hg => rfl); (case hr => first | (go_simp; done) | (go_simp; rfl)); intro gb108 hg w63 hbox hb; have n0_ := Aside0.mk (Kd.R_below (Kd.R_elderB (by (with_reducible repeat (first | apply Kd.R_alloc | apply Kd.R_drewN | apply Kd.R_drew)); exact HO_3.out) gb108 (Nat.le_of_eq hg.symm)) hb); have n1_ := Aside0.mk (below_step (by repeat (first | (with_reducible first | exact HB.out | apply below_alloc | apply pw_below_drewN | apply below_drew1) | exact HB.out)) hb); have n2_ := Aside0.mk (hbox); have n3_ := Aside0.mk ((by rw [hg]; exact (below_size (by repeat (first | (with_reducible first | exact HB.out | apply below_alloc | apply pw_below_drewN | apply below_drew1) | exact HB.out))) : w.heap.size ≤ gb108)); have n4_ := Aside0.mk ((by rw [hg]; exact (below_size (by repeat (first | (with_reducible first | exact HB.out | apply below_alloc | apply pw_below_drewN | apply below_drew1) | exact HB.out))) : w.heap.size ≤ gb108)); clear HO_3; clear HB; have HO_3 := n0_; have HB := n1_; have BK108 := n2_; have GW108 := n3_; have GE108 := n4_; clear n0_ n1_ n2_ n3_ n4_; clear hb hbox hg; have hcz64_0 : w63.cell? ⟨gb108, 0, none⟩ = some (.int .i64 0) := (blk_cell BK108.out 0).trans rfl; have hcz64_1 : w63.cell? ⟨gb108, 1, none⟩ = some (.string (⟨#[]⟩ : ByteArray)) := (blk_cell BK108.out 1).trans rfl; have hfz64_0 := blk_frozen BK108.out 0; have hfz64_1 := blk_frozen BK108.out 1))
                  have n0_ : Aside0 (Kd.R k76 76 ((w63.setCell ⟨gb108, 0, none⟩ (.int .i64 ((rd_T76 l0 x11_1).f0))).setCell ⟨gb108, 1, none⟩ (.string ((rd_T76 l0 x11_1).f1))) w.heap.size (fun k_ => k_ ≠ gb108) u3 x3_1) := ⟨by (with_reducible repeat (first | apply Kd.R_alloc | apply Kd.R_drewN | apply Kd.R_drew)); exact Kd.R_mono (Kd.R_far (p := ⟨gb108, 1, none⟩) (Kd.R_far (p := ⟨gb108, 0, none⟩) (Kd.R_mono HO_3.out (fun k_ hk => (⟨hk, hk.2⟩ : _ ∧ k_ ≠ gb108))) (fun _ hk => hk.2) (.int .i64 ((rd_T76 l0 x11_1).f0))) (fun _ hk => hk.2) (.string ((rd_T76 l0 x11_1).f1))) (fun _ hk => hk.1.2)⟩
                  have n1_ : Aside0 (((w63.setCell ⟨gb108, 0, none⟩ (.int .i64 ((rd_T76 l0 x11_1).f0))).setCell ⟨gb108, 1, none⟩ (.string ((rd_T76 l0 x11_1).f1))).heap[gb108]? = some (.cells #[.int .i64 ((rd_T76 l0 x11_1).f0), .string ((rd_T76 l0 x11_1).f1)] 76 (0, 0))) := ⟨by (with_reducible repeat (first | refine blk_drewN ?_ _ | refine blk_drew ?_ | refine blk_alloc ?_ _)); refine blk_put (cs := #[.int .i64 ((rd_T76 l0 x11_1).f0), .string (⟨#[]⟩ : ByteArray)]) ?_ 1 _ rfl; (with_reducible repeat (first | refine blk_drewN ?_ _ | refine blk_drew ?_ | refine blk_alloc ?_ _)); refine blk_put (cs := #[.int .i64 0, .string (⟨#[]⟩ : ByteArray)]) ?_ 0 _ rfl; (with_reducible repeat (first | refine blk_drewN ?_ _ | refine blk_drew ?_ | refine blk_alloc ?_ _)); exact BK108.out⟩
                  have n2_ : Aside0 (Below w.heap.size w ((w63.setCell ⟨gb108, 0, none⟩ (.int .i64 ((rd_T76 l0 x11_1).f0))).setCell ⟨gb108, 1, none⟩ (.string ((rd_T76 l0 x11_1).f1)))) := ⟨by repeat (first | (with_reducible first | exact HB.out | apply below_alloc | apply pw_below_drewN | apply below_drew1 | refine below_set ?_ GE108.out) | exact HB.out)⟩
                  (try clear HO_3)
                  (try clear BK108)
                  (try clear HB)
                  generalize ((w63.setCell ⟨gb108, 0, none⟩ (.int .i64 ((rd_T76 l0 x11_1).f0))).setCell ⟨gb108, 1, none⟩ (.string ((rd_T76 l0 x11_1).f1))) = w65 at n0_ n1_ n2_ ⊢
                  have HO_3 := n0_
                  have BK108 := n1_
                  have HB := n2_
                  clear n0_ n1_ n2_
                  have n0_ := Aside0.mk (Kd.R_drew HO_3.out)
                  have n1_ := Aside0.mk (blk_drew BK108.out)
                  have n2_ := Aside0.mk (below_drew1 HB.out)
                  clear HO_3
                  clear BK108
                  clear HB
                  have HO_3 := n0_
                  have BK108 := n1_
                  have HB := n2_
                  clear n0_ n1_ n2_
                  refine start_ (n := 7) (S := fun w' => w'.cell? ⟨gb108, 0, none⟩ = some (.int .i64 ((rd_T76 l0 x11_1).f0)) ∧ w'.cell? ⟨gb108, 1, none⟩ = some (.string ((rd_T76 l0 x11_1).f1))) (ds := []) #[false, false, false, false, false, false, false] (by kernel_rfl) rfl rfl ⟨(blk_cell BK108.out 0).trans rfl, (blk_cell BK108.out 1).trans rfl⟩ (fun hHeld => ?_)
                  generalize w65.drew = w66 at HO_3 BK108 HB hHeld ⊢
                  refine pure_ (i := 0) (N := some 15) (v := ?_) (a' := ?_) #[true, false, false, false, false, false, false] rfl rfl (by kernel_rfl) (fun _ _ _ h => h) (Or.inl ⟨by rfl, ?_⟩) ?_ ?_
                  rotate_left
                  · intro w'
                    go_simp
                    with_reducible rfl
                  rotate_left
                  · simp only [Act.put, List.setIfInBounds_toArray, List.set_cons_zero, List.set_cons_succ, i64_w, i32_w]
                    rfl
                  refine take_ (i := 1) (N := some 16) (v := ?_) (a' := ?_) #[true, true, false, false, false, false, false] rfl rfl (by kernel_rfl) (fun _ _ _ h => h) (Or.inl ⟨by rfl, ?_⟩) hHeld ?_ ?_
                  rotate_left
                  · rintro w' ⟨s0, s1⟩
                    go_simp
                    with_reducible rfl
                  rotate_left
                  · simp only [Act.put, List.setIfInBounds_toArray, List.set_cons_zero, List.set_cons_succ, i64_w, i32_w]
                    rfl
                  refine one_ (i := 2) (N := some 17) #[true, true, true, false, false, false, false] rfl rfl (by kernel_rfl) (by decide) (fun K hK => ?_)
                  refine goes_ Tryd.func33 (by kernel_rfl) rfl #[] (by rfl) rfl rfl (by (try simp only [List.map_toArray, List.map_cons, List.map_nil]); first | done | rfl | (simp only [List.length_drop, List.length_take]; rfl)) ?_
                  with_reducible refine (spec_LgEscapes.calls  t109 _ A7.out).mono ?_
                  rintro e w67 ⟨v110, rfl, ho0, hb⟩
                  refine ⟨_, rfl, ?_⟩
                  have n0_ := Aside0.mk (Kd.R_below (by (with_reducible repeat (first | apply Kd.R_alloc | apply Kd.R_drewN | apply Kd.R_drew)); exact HO_3.out) hb)
                  have n1_ := Aside0.mk (Kd.R_lower ho0 (below_size (by repeat (first | (with_reducible first | exact HB.out | apply below_alloc | apply pw_below_drewN | apply below_drew1 | refine below_set ?_ GE108.out) | exact HB.out))))
                  have n2_ := Aside0.mk (blk_below (g := gb108) (o := .cells #[.int .i64 ((rd_T76 l0 x11_1).f0), .string ((rd_T76 l0 x11_1).f1)] 76 (0, 0)) (by (with_reducible repeat (first | refine blk_drewN ?_ _ | refine blk_drew ?_ | refine blk_alloc ?_ _)); exact BK108.out) hb)
                  have n3_ := Aside0.mk (below_step (by repeat (first | (with_reducible first | exact HB.out | apply below_alloc | apply pw_below_drewN | apply below_drew1 | refine below_set ?_ GE108.out) | exact HB.out)) hb)
                  clear HO_3
                  clear BK108
                  clear HB
                  have HO_3 := n0_
                  have HO111 := n1_
                  have BK108 := n2_
                  have HB := n3_
                  clear n0_ n1_ n2_ n3_
                  (try clear hb)
                  (try clear hb2)
                  (try clear hk)
                  (try clear hi)
                  (try clear ho0)
                  obtain ⟨Ao68, co68, eo68⟩ := Kd.R_slice HO111.out
                  (first | subst eo68 | (injection eo68 with f1_ f2_ f3_; have f4_ := f1_.symm; have f5_ := f3_.symm; clear f1_ f2_ f3_; subst f4_; subst f5_))
                  refine hK.out _ _ ⟨(blk_cell BK108.out 0).trans rfl, (blk_cell BK108.out 1).trans rfl⟩ (fun hHeld => ?_)
                  clear hK K
                  refine norm_ (a' := ?_) ?_ ?_
                  rotate_left
                  · show Act.put _ (some 17) _ = _
                    simp only [Act.put, List.setIfInBounds_toArray, List.set_cons_zero, List.set_cons_succ, i64_w, i32_w]
                    rfl
                  refine pure_ (i := 3) (N := some 18) (v := ?_) (a' := ?_) #[true, true, true, true, false, false, false] rfl rfl (by kernel_rfl) (fun _ _ _ h => h) (Or.inl ⟨by rfl, ?_⟩) ?_ ?_
                  rotate_left
                  · intro w'
                    go_simp
                    with_reducible rfl
                  rotate_left
                  · simp only [Act.put, List.setIfInBounds_toArray, List.set_cons_zero, List.set_cons_succ, i64_w, i32_w]
                    rfl
                  refine pure_ (i := 4) (N := some 19) (v := ?_) (a' := ?_) #[true, true, true, true, true, false, false] rfl rfl (by kernel_rfl) (fun _ _ _ h => h) (Or.inl ⟨by rfl, ?_⟩) ?_ ?_
                  rotate_left
                  · intro w'
                    go_simp
                    with_reducible rfl
                  rotate_left
                  · simp only [Act.put, List.setIfInBounds_toArray, List.set_cons_zero, List.set_cons_succ, i64_w, i32_w]
                    rfl
                  refine pure_ (i := 5) (N := some 20) (v := ?_) (a' := ?_) #[true, true, true, true, true, true, false] rfl rfl (by kernel_rfl) (fun _ _ _ h => h) (Or.inl ⟨by rfl, ?_⟩) ?_ ?_
                  rotate_left
                  · intro w'
                    go_simp
                    with_reducible rfl
                  rotate_left
                  · simp only [Act.put, List.setIfInBounds_toArray, List.set_cons_zero, List.set_cons_succ, i64_w, i32_w]
                    rfl
                  refine pure_ (i := 6) (N := some 7) (v := ?_) (a' := ?_) #[true, true, true, true, true, true, true] rfl rfl (by kernel_rfl) (fun _ _ _ h => h) (Or.inl ⟨by rfl, ?_⟩) ?_ ?_
                  rotate_left
                  · intro w'
                    go_simp
                    with_reducible rfl
                  rotate_left
                  · simp only [Act.put, List.setIfInBounds_toArray, List.set_cons_zero, List.set_cons_succ, i64_w, i32_w]
                    rfl
                  refine done_ (by kernel_rfl) ?_
                  have hcz69_0 : w67.cell? ⟨gb108, 0, none⟩ = some (.int .i64 ((rd_T76 l0 x11_1).f0)) := (blk_cell BK108.out 0).trans rfl
                  have hcz69_1 : w67.cell? ⟨gb108, 1, none⟩ = some (.string ((rd_T76 l0 x11_1).f1)) := (blk_cell BK108.out 1).trans rfl
                  have hfz69_0 := blk_frozen BK108.out 0
                  have hfz69_1 := blk_frozen BK108.out 1
                  try go_wp2_with (first | ((with_reducible refine gate_builtin (b := .append) (xs := #[.tmp 35, .tmp 37]) rfl ?_); at_builtin; refine Kd.R_append k76 (w0 := w) w.heap.size rfl (.tmp 35) (.tmp 37) 52 76 (.agg #[(.int .i64 0), (.string ⟨#[]⟩)]) 24 rfl Tryd.underlying52 info76 rfl (by decide) (by omega) u3 x3_1 (⟨(rd_T76 l0 x11_1).f0, (rd_T76 l0 x11_1).f1⟩ : S76) [.int .i64 ((rd_T76 l0 x11_1).f0), .string ((rd_T76 l0 x11_1).f1)] (fun k_ => k_ ≠ gb108) (fun _ => False) rfl rfl ?aP (fun _ hk => hk.elim) ?aF ?aO ?aB ?aS ?aL ?_; (case aP => exact k76_mkM _ _ _ (⟨(rd_T76 l0 x11_1).f0, (rd_T76 l0 x11_1).f1⟩ : S76)); (case aB => exact (by repeat (first | (with_reducible first | exact HB.out | apply below_alloc | apply pw_below_drewN | apply below_drew1 | refine below_set ?_ GE108.out) | exact HB.out))); (case aF => exact (fun k_ hk => Kd.freshB (g := gb108) (o := .cells #[.int .i64 ((rd_T76 l0 x11_1).f0), .string ((rd_T76 l0 x11_1).f1)] 76 (0, 0)) (by (with_reducible repeat (first | refine blk_drewN ?_ _ | refine blk_drew ?_ | refine blk_alloc ?_ _)); exact BK108.out) k_ hk)); (case aO => exact (by (with_reducible repeat (first | apply Kd.R_alloc | apply Kd.R_drewN | apply Kd.R_drew)); exact HO_3.out)); (case aS => exact (below_size (by repeat (first | (with_reducible first | exact HB.out | apply below_alloc | apply pw_below_drewN | apply below_drew1 | refine below_set ?_ GE108.out) | exact HB.out)))); (case aL => have := LMc62.out; omega); intro v122 w70 ho hb hg hat; rw [← Ny121.out] at ho; have n0_ := Aside0.mk (blk_grown (g := gb108) (o := .cells #[.int .i64 ((rd_T76 l0 x11_1).f0), .string ((rd_T76 l0 x11_1).f1)] 76 (0, 0)) (by (with_reducible repeat (first | refine blk_drewN ?_ _ | refine blk_drew ?_ | refine blk_alloc ?_ _)); exact BK108.out) hg (Kd.R_away HO_3.out (fun _ hk => hk))); have n1_ := Aside0.mk (Kd.R_over' (by (with_reducible repeat (first | apply Kd.R_alloc | apply Kd.R_drewN | apply Kd.R_drew)); exact HO111.out) (Kd.R_typed (by (with_reducible repeat (first | apply Kd.R_alloc | apply Kd.R_drewN | apply Kd.R_drew)); exact HO_3.out)) (by decide) hg); have n2_ := Aside0.mk (hb); have n3_ := Aside0.mk (ho); clear BK108; clear HO111; clear HB; clear HO_3; have BK108 := n0_; have HO111 := n1_; have HB := n2_; have HO123 := n3_; clear n0_ n1_ n2_ n3_; clear ho hb hg hat))
                  go_roundg k1
                  case measure => have := HK1.out; omega
                  case rel => exact ⟨(y121), ((((rd_T76 l0 x11_1).f0) == (wrap64 ((t109.length : Int) - 1)))), (wrap64 (x11_1 + 1)), (by first | rfl | (simp; done) | (simp [*]; done)), (by first | rfl | (simp; done) | (simp [*]; done)), H', ⟨by have := HK1.out; omega⟩, ⟨by (with_reducible repeat (first | apply Kd.R_alloc | apply Kd.R_drewN | apply Kd.R_drew)); exact Kd.R_mono HO123.out (fun _ hk => trivial)⟩, ⟨by repeat (first | (with_reducible first | exact HB.out | apply below_alloc | apply pw_below_drewN | apply below_drew1 | refine below_set ?_ GE108.out) | exact HB.out)⟩⟩
                · rw [if_neg c62] at H
                  exact absurd H (by simp)
          · rw [if_neg c6] at H
            exact absurd H (by simp)
        · rw [if_neg c5] at H
          exact absurd H (by simp)
      · rw [if_neg c4] at H
        have c4b0 : decide (x11_1 < (l0.length : Int)) = false := decide_eq_false c4
        clear c4
        obtain rfl := Option.some.inj H
        go_wp2
        go_ret
        exact ⟨_, by first | rfl | (simp [errW_none, errW_some] <;> rfl) | (simp [*, errW_none, errW_some] <;> rfl), by (with_reducible repeat (first | apply Kd.R_alloc | apply Kd.R_drewN | apply Kd.R_drew)); exact HO_3.out, by repeat (first | (with_reducible first | exact HB.out | apply below_alloc | apply pw_below_drewN | apply below_drew1) | exact HB.out)⟩

end Go.Proofs.YtokjbdofpdncdaaDoor.PlgEscaped
