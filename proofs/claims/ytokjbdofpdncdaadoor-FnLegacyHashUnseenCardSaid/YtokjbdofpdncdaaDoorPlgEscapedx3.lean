-- PRINTED BY print.sh 35421559b90ae4d0a3588c463048766b98c2df88dd9212a6774a882060cdf62d: not written by this session
import Derived.Test.YtokjbdofpdncdaaDoorPlgEscapedx0
import Derived.Test.YtokjbdofpdncdaaDoorPlgEscapedx1
namespace Go.Proofs.YtokjbdofpdncdaaDoor.PlgEscaped
open Go.RowKit Go.Proofs.YtokjbdofpdncdaaDoorW.PrintWords Go.Proofs.YtokjbdofpdncdaaDoorW.PrintLast Go.Proofs.YtokjbdofpdncdaaDoorW.PrintMore
attribute [local go_sem] max2_int min2_int max_two min_two max_three min_three max_four min_four   -- for this text's walks alone
set_option linter.unusedVariables false
set_option linter.unusedSimpArgs false

-- NOT PRINTED: function 19 (spec_LgName)

/-! ### laws_idAt: function 34 -/
def laws_idAt.f (a0 : Int) (a1 : Int) : Option (Int) := if a1 = 0 then (none) else (some (Int.tmod (wrap64 ((Int.tmod a0 a1) + a1)) a1))
set_option maxHeartbeats 8000000 in
set_option maxRecDepth 100000 in
theorem laws_idAt.calls (a0 : Int) (a1 : Int) (r : Int) (w : World) (h : laws_idAt.f a0 a1 = some r) :
    Calls Tryd.prog 34 #[.int .i64 a0, .int .i64 a1] w fun e w' => e = .returned (.int .i64 r) ∧ Drawn0 w w' := by
  have H : (if a1 = 0 then (none) else (some (Int.tmod (wrap64 ((Int.tmod a0 a1) + a1)) a1))) = some r := h
  clear h
  by_cases c3 : a1 = 0
  · rw [if_pos c3] at H
    exact absurd H (by simp)
  · rw [if_neg c3] at H
    have c3b0 : (a1 == 0) = false := beq_eq_false_iff_ne.mpr c3
    have c3b1 : (a1 != 0) = true := bne_iff_ne.mpr c3
    obtain rfl := Option.some.inj H
    go_enter Tryd.func34, Tryd.ntmps34
    go_wp2
    go_ret
    exact ⟨by first | rfl | (simp; done) | (simp [*]; done), by repeat (first | exact Drawn0.refl _ | apply Drawn0.step)⟩

/-! ### spec_AnWord: function 35 -/
def spec_AnWord.l0 : Nat → List Int → List Int → List Int → Int → Int → Option (ByteArray)
  | 0, _, _, _, _, _ => none
  | k + 1, x0, x3, x12, x13, x14 => if x14 < x13 then (if 0 ≤ x14 then (if x14 < (x12.length : Int) then (if 0 ≤ (Int.tmod (wrap64 (rd x12 x14)) 62) then (if (Int.tmod (wrap64 (rd x12 x14)) 62) < 63 then (if x14 < (x3.length : Int) then (spec_AnWord.l0 k x0 (x3.set (x14 : Int).toNat (bt (⟨#[97, 98, 99, 100, 101, 102, 103, 104, 105, 106, 107, 108, 109, 110, 111, 112, 113, 114, 115, 116, 117, 118, 119, 120, 121, 122, 65, 66, 67, 68, 69, 70, 71, 72, 73, 74, 75, 76, 77, 78, 79, 80, 81, 82, 83, 84, 85, 86, 87, 88, 89, 90, 48, 49, 50, 51, 52, 53, 54, 55, 56, 57, 95]⟩ : ByteArray) (Int.tmod (wrap64 (rd x12 x14)) 62))) x12 x13 (wrap64 (x14 + 1))) else (none)) else (none)) else (none)) else (none)) else (none)) else (if 0 < (x0.length : Int) then (if 0 ≤ (Int.tmod (wrap64 (rd x0 0)) 52) then (if (Int.tmod (wrap64 (rd x0 0)) 52) < 63 then (if 0 < (x3.length : Int) then (some (strOfNums (x3.set (0 : Int).toNat (bt (⟨#[97, 98, 99, 100, 101, 102, 103, 104, 105, 106, 107, 108, 109, 110, 111, 112, 113, 114, 115, 116, 117, 118, 119, 120, 121, 122, 65, 66, 67, 68, 69, 70, 71, 72, 73, 74, 75, 76, 77, 78, 79, 80, 81, 82, 83, 84, 85, 86, 87, 88, 89, 90, 48, 49, 50, 51, 52, 53, 54, 55, 56, 57, 95]⟩ : ByteArray) (Int.tmod (wrap64 (rd x0 0)) 52))))) else (none)) else (none)) else (none)) else (none))
def spec_AnWord.f (k : Nat) (l0 : List Int) : Option (ByteArray) := if (l0.length : Int) = 0 then (some (⟨#[97]⟩ : ByteArray)) else (if 0 ≤ (l0.length : Int) then (if ((l0.length : Int) : Int).toNat ≤ 281474976710656 then (spec_AnWord.l0 k l0 (List.replicate ((l0.length : Int) : Int).toNat 0) l0 (l0.length : Int) 0) else (none)) else (none))
theorem spec_AnWord.mono_l : ∀ k, (∀ y0 y1 y2 y3 y4, LeO (spec_AnWord.l0 k y0 y1 y2 y3 y4) (spec_AnWord.l0 (k + 1) y0 y1 y2 y3 y4))
  | 0 => fun _ _ _ _ _ r h => by simp [spec_AnWord.l0] at h
  | k + 1 => by
    have ih0 := spec_AnWord.mono_l k
    · intro y0 y1 y2 y3 y4
      unfold spec_AnWord.l0
      repeat' first
      | (with_reducible exact ih0 _ _ _ _ _)
      | (with_reducible exact LeO.refl _)
      | (with_reducible exact LeO.none _)
      | (with_reducible refine LeO.ite ?_ ?_)
      | (with_reducible refine LeO.bind ?_ (fun _ => ?_))
      | exact ih0 _ _ _ _ _
      | exact LeO.none _
      | refine LeO.ite ?_ ?_
      | refine LeO.bind ?_ (fun _ => ?_)
theorem spec_AnWord.mono : ∀ a0 k, LeO (spec_AnWord.f k a0) (spec_AnWord.f (k + 1) a0) := by
  intro a0 k
  have ih0 := spec_AnWord.mono_l k
  unfold spec_AnWord.f
  repeat' first
      | (with_reducible exact ih0 _ _ _ _ _)
      | (with_reducible exact LeO.refl _)
      | (with_reducible exact LeO.none _)
      | (with_reducible refine LeO.ite ?_ ?_)
      | (with_reducible refine LeO.bind ?_ (fun _ => ?_))
      | exact ih0 _ _ _ _ _
      | exact LeO.none _
      | refine LeO.ite ?_ ?_
      | refine LeO.bind ?_ (fun _ => ?_)
set_option maxHeartbeats 8000000 in
set_option maxRecDepth 100000 in
theorem spec_AnWord.calls (k : Nat) (A0 : Option Addr) (c0 : Nat) (l0 : List Int) (r : ByteArray) (w : World) (hr0 : Kd.C (Kd.int .u8) w A0 l0.length l0) (hc0 : l0.length ≤ c0) (h : spec_AnWord.f k l0 = some r) :
    Calls Tryd.prog 35 #[.slice A0 l0.length c0] w fun e w' => e = .returned (.string r) ∧ Below w.heap.size w w' := by
  have HR0 := Aside0.mk hr0
  have HC0 := Aside0.mk hc0
  clear hr0 hc0
  have HB := Aside0.mk (Below.refl w.heap.size w)
  have H : (if (l0.length : Int) = 0 then (some (⟨#[97]⟩ : ByteArray)) else (if 0 ≤ (l0.length : Int) then (if ((l0.length : Int) : Int).toNat ≤ 281474976710656 then (spec_AnWord.l0 k l0 (List.replicate ((l0.length : Int) : Int).toNat 0) l0 (l0.length : Int) 0) else (none)) else (none))) = some r := h
  clear h
  by_cases c2 : (l0.length : Int) = 0
  · rw [if_pos c2] at H
    have c2b0 : ((l0.length : Int) == 0) = true := beq_iff_eq.mpr c2
    have c2b1 : ((l0.length : Int) != 0) = false := bne_eq_false_iff_eq.mpr c2
    clear c2
    obtain rfl := Option.some.inj H
    go_enter Tryd.func35, Tryd.ntmps35
    go_wp2
    go_ret
    exact ⟨by first | rfl | (simp [errW_none, errW_some] <;> rfl) | (simp [*, errW_none, errW_some] <;> rfl), by repeat (first | (with_reducible first | exact HB.out | apply below_alloc | apply pw_below_drewN | apply below_drew1) | exact HB.out)⟩
  · rw [if_neg c2] at H
    have c2b0 : ((l0.length : Int) == 0) = false := beq_eq_false_iff_ne.mpr c2
    have c2b1 : ((l0.length : Int) != 0) = true := bne_iff_ne.mpr c2
    have c2b2 : ¬ (l0 = []) := fun h_ => c2 (by rw [h_]; rfl)
    by_cases c3 : 0 ≤ (l0.length : Int)
    · rw [if_pos c3] at H
      have c3b0 := eq_true c3
      have c3b1 : decide (0 ≤ (l0.length : Int)) = true := decide_eq_true c3
      clear c3
      by_cases c4 : ((l0.length : Int) : Int).toNat ≤ 281474976710656
      · rw [if_pos c4] at H
        have c4b0 := eq_true c4
        have c4b1 : decide (((l0.length : Int) : Int).toNat ≤ 281474976710656) = true := decide_eq_true c4
        clear c4
        obtain ⟨y134, hy134⟩ : ∃ y_ : List Int, y_ = (List.replicate ((l0.length : Int) : Int).toNat 0) := ⟨_, rfl⟩
        replace H : (spec_AnWord.l0 k l0 y134 l0 (l0.length : Int) 0) = some r := by first | (rw [hy134]; with_reducible exact H) | (have H2_ := (Option.bind_some _ _).symm.trans H; rw [hy134]; with_reducible exact H2_) | (have H2_ := (Option.bind_some _ _).symm.trans H; with_reducible exact H2_) | with_reducible exact H | (rw [hy134]; exact H) | exact H
        have Ny134 := Aside0.mk hy134
        clear hy134
        have H' := Aside0.mk H
        clear H
        go_enter Tryd.func35, Tryd.ntmps35
        go_wp2_with (first | ((with_reducible refine gate_dst (N := 11) rfl ?_); refine Kd.R_make (Kd.int .u8) _ 5 rfl (N := 11) rfl 23 _ _ rfl (l0.length : Int) rfl rfl Tryd.underlying23 (.int .u8 0) 1 info5 rfl (by decide) (by omega) 0 (ok := fun _ => True) (okp := fun _ => True) rfl (fun _ hk => hk) trivial (of_decide_eq_true (by first | (with_reducible assumption) | assumption)) (Nat.le_trans (Nat.mul_le_mul_right _ (of_decide_eq_true (by first | (with_reducible assumption) | assumption) : (l0.length : Int).toNat ≤ 281474976710656)) (by omega)) (Below.refl _ _) (Nat.le_refl _) ?_; intro v135 w5 ho6 hb hg_ hnew_; clear hg_ hnew_; (first | rw [← Ny134.out] at ho6 | (simp only [Int.reduceToNat] at ho6; rw [← Ny134.out] at ho6)); have n0_ := Aside0.mk (Kd.R_lower ho6 (below_size (by repeat (first | (with_reducible first | exact HB.out | apply below_alloc | apply pw_below_drewN | apply below_drew1) | exact HB.out)))); have n1_ := Aside0.mk (below_step (by repeat (first | (with_reducible first | exact HB.out | apply below_alloc | apply pw_below_drewN | apply below_drew1) | exact HB.out)) hb); clear HB; have HO136 := n0_; have HB := n1_; clear n0_ n1_; clear hb ho6))
        go_loopg [14] k (fun kq v14 w' => ∃ (x3_1 : List Int) (x14_1 : Int), v14 = .int .i64 x14_1 ∧ Aside0 (spec_AnWord.l0 kq l0 x3_1 l0 (l0.length : Int) x14_1 = some r) ∧ Aside0 (kq ≤ k) ∧ Aside0 (Kd.R (Kd.int .u8) 5 w' w.heap.size (fun _ => True) v135 x3_1) ∧ Aside0 (Below w.heap.size w w'))
        case atStart => exact ⟨(y134), (0), (by first | rfl | (simp; done) | (simp [*]; done)), H', ⟨Nat.le_refl _⟩, ⟨by (with_reducible repeat (first | apply Kd.R_alloc | apply Kd.R_drewN | apply Kd.R_drew)); exact HO136.out⟩, ⟨by repeat (first | (with_reducible first | exact HB.out | apply below_alloc | apply pw_below_drewN | apply below_drew1) | exact HB.out)⟩⟩
        case round =>
          clear H'
          try clear c2
          try clear c2b0
          try clear c2b1
          try clear c2b2
          try clear p2
          try clear c3
          try clear c3b0
          try clear c3b1
          try clear c4
          try clear c4b0
          try clear c4b1
          obtain ⟨x3_1, x14_1, rfl, HA, HK1, HO_3, HB⟩ := hrel
          cases gk with
          | zero => exact absurd HA.out (by simp [spec_AnWord.l0])
          | succ k1 =>
            have H := HA.out
            clear HA
            simp only [spec_AnWord.l0] at H
            by_cases c7 : x14_1 < (l0.length : Int)
            · rw [if_pos c7] at H
              have c7b0 : decide (x14_1 < (l0.length : Int)) = true := decide_eq_true c7
              clear c7
              by_cases c8 : 0 ≤ x14_1
              · rw [if_pos c8] at H
                have c8b0 : decide (0 ≤ x14_1) = true := decide_eq_true c8
                clear c8
                by_cases c9 : x14_1 < (l0.length : Int)
                · rw [if_pos c9] at H
                  have c9b0 : decide (x14_1 < (l0.length : Int)) = true := decide_eq_true c9
                  clear c9
                  obtain ⟨ji10, hji10⟩ : ∃ j_ : Int, (Int.tmod (wrap64 (rd l0 x14_1)) 62) = j_ := ⟨_, rfl⟩
                  replace H : (if 0 ≤ (ji10) then (if (ji10) < 63 then (if x14_1 < (x3_1.length : Int) then (spec_AnWord.l0 k1 l0 (x3_1.set (x14_1 : Int).toNat (bt (⟨#[97, 98, 99, 100, 101, 102, 103, 104, 105, 106, 107, 108, 109, 110, 111, 112, 113, 114, 115, 116, 117, 118, 119, 120, 121, 122, 65, 66, 67, 68, 69, 70, 71, 72, 73, 74, 75, 76, 77, 78, 79, 80, 81, 82, 83, 84, 85, 86, 87, 88, 89, 90, 48, 49, 50, 51, 52, 53, 54, 55, 56, 57, 95]⟩ : ByteArray) (ji10))) l0 (l0.length : Int) (wrap64 (x14_1 + 1))) else (none)) else (none)) else (none)) = some r := by first | (rw [hji10] at H; exact H) | (simp only [hji10] at H ⊢; exact H)
                  by_cases c11 : 0 ≤ (ji10)
                  · rw [if_pos c11] at H
                    have c11b0 : decide (0 ≤ (ji10)) = true := decide_eq_true c11
                    clear c11
                    by_cases c12 : (ji10) < 63
                    · rw [if_pos c12] at H
                      have c12b0 : decide ((ji10) < 63) = true := decide_eq_true c12
                      clear c12
                      by_cases c14 : x14_1 < (x3_1.length : Int)
                      · rw [if_pos c14] at H
                        have c14b0 : decide (x14_1 < (x3_1.length : Int)) = true := decide_eq_true c14
                        clear c14
                        obtain ⟨y138, hy138⟩ : ∃ y_ : List Int, y_ = (x3_1.set (x14_1 : Int).toNat (bt (⟨#[97, 98, 99, 100, 101, 102, 103, 104, 105, 106, 107, 108, 109, 110, 111, 112, 113, 114, 115, 116, 117, 118, 119, 120, 121, 122, 65, 66, 67, 68, 69, 70, 71, 72, 73, 74, 75, 76, 77, 78, 79, 80, 81, 82, 83, 84, 85, 86, 87, 88, 89, 90, 48, 49, 50, 51, 52, 53, 54, 55, 56, 57, 95]⟩ : ByteArray) (ji10))) := ⟨_, rfl⟩
                        replace H : (spec_AnWord.l0 k1 l0 y138 l0 (l0.length : Int) (wrap64 (x14_1 + 1))) = some r := by first | (rw [hy138]; with_reducible exact H) | (have H2_ := (Option.bind_some _ _).symm.trans H; rw [hy138]; with_reducible exact H2_) | (have H2_ := (Option.bind_some _ _).symm.trans H; with_reducible exact H2_) | with_reducible exact H | (rw [hy138]; exact H) | exact H
                        have Ny138 := Aside0.mk hy138
                        clear hy138
                        have H' := Aside0.mk H
                        clear H
                        have p137 : 0 ≤ (x14_1 : Int) := of_decide_eq_true (by first | (with_reducible assumption) | assumption)
                        have q137 : x14_1 < (l0.length : Int) := of_decide_eq_true (by first | (with_reducible assumption) | assumption)
                        obtain ⟨ad137, e137, hx137_0⟩ := Kd.at_int HR0.out x14_1 p137 q137
                        cases e137
                        replace hx137_0 := (HB.out.cell (World.block_lt_of_cell? w _ hx137_0)).trans hx137_0
                        replace p137 := eq_true p137
                        replace q137 := eq_true q137
                        have p13 : 0 ≤ ((ji10) : Int) := of_decide_eq_true (by first | (with_reducible assumption) | assumption)
                        have q13 : (ji10) < (63 : Int) := of_decide_eq_true (by first | (with_reducible assumption) | assumption)
                        have hx13 := bt_at (⟨#[97, 98, 99, 100, 101, 102, 103, 104, 105, 106, 107, 108, 109, 110, 111, 112, 113, 114, 115, 116, 117, 118, 119, 120, 121, 122, 65, 66, 67, 68, 69, 70, 71, 72, 73, 74, 75, 76, 77, 78, 79, 80, 81, 82, 83, 84, 85, 86, 87, 88, 89, 90, 48, 49, 50, 51, 52, 53, 54, 55, 56, 57, 95]⟩ : ByteArray) (ji10)
                        replace p13 := eq_true p13
                        replace q13 := eq_true q13
                        have p15 : 0 ≤ (x14_1 : Int) := of_decide_eq_true (by first | (with_reducible assumption) | assumption)
                        have q15 : (x14_1 : Int) < ((x3_1.length : Int) : Int) := of_decide_eq_true (by first | (with_reducible assumption) | assumption)
                        obtain ⟨go15, co15, eo15, gb15, gl15, cl15, HG15⟩ := Kd.R_form HO_3.out (by omega)
                        (first | cases eo15 | (injection eo15 with ea_ en_ ec_; (first | subst ea_ | (injection ea_ with ea_; subst ea_)); subst ec_; clear en_))
                        have GB15 := Aside0.mk gb15
                        have GG15 := Aside0.mk HG15
                        clear gb15 gl15 HG15
                        obtain ⟨hx15_0, hf15_0⟩ := Kd.R_celln 0 HO_3.out (x14_1 : Int) p15 q15
                        replace p15 := eq_true p15
                        replace q15 := eq_true q15
                        have HP16 := Kd.R_putg HO_3.out (x14_1 : Int) (bt (⟨#[97, 98, 99, 100, 101, 102, 103, 104, 105, 106, 107, 108, 109, 110, 111, 112, 113, 114, 115, 116, 117, 118, 119, 120, 121, 122, 65, 66, 67, 68, 69, 70, 71, 72, 73, 74, 75, 76, 77, 78, 79, 80, 81, 82, 83, 84, 85, 86, 87, 88, 89, 90, 48, 49, 50, 51, 52, 53, 54, 55, 56, 57, 95]⟩ : ByteArray) (ji10))
                        go_wp2_with (first | ((with_reducible refine gate_store (t := 5) (p := 25) rfl ?_); refine store_event (t := 5) (p := 25) (v := ?vo_w17) (w1 := (wr.setCell ⟨go15, (x14_1 : Int).toNat, none⟩ (.int .u8 (bt (⟨#[97, 98, 99, 100, 101, 102, 103, 104, 105, 106, 107, 108, 109, 110, 111, 112, 113, 114, 115, 116, 117, 118, 119, 120, 121, 122, 65, 66, 67, 68, 69, 70, 71, 72, 73, 74, 75, 76, 77, 78, 79, 80, 81, 82, 83, 84, 85, 86, 87, 88, 89, 90, 48, 49, 50, 51, 52, 53, 54, 55, 56, 57, 95]⟩ : ByteArray) (ji10))))) ?hg ?ho ?hn ?hr ?_; (case ho => rfl); (case hg => rfl); (case hn => rfl); (case hr => first | (go_simp; done) | (go_simp; rfl)); intro w17 hw; have hg : wr.grownBy w17 (some go15) := (by rw [hw]; exact HP16.2); have hp_ : Kd.R (Kd.int .u8) 5 w17 w.heap.size (fun _ => True) (.slice (some ⟨go15, 0, none⟩) x3_1.length co15) y138 := (by rw [hw, Ny138.out]; exact HP16.1); clear HP16; have n0_ := Aside0.mk (hp_); have n1_ := Aside0.mk ((by rw [hw]; exact below_set (HB.out) GB15.out : Below w.heap.size w w17)); clear HO_3; clear HB; have HO_3 := n0_; have HB := n1_; clear n0_ n1_; clear hg hw hp_))
                        go_roundg k1
                        case measure => have := HK1.out; omega
                        case rel => exact ⟨(y138), (wrap64 (x14_1 + 1)), (by first | rfl | (simp; done) | (simp [*]; done)), H', ⟨by have := HK1.out; omega⟩, ⟨by (with_reducible repeat (first | apply Kd.R_alloc | apply Kd.R_drewN | apply Kd.R_drew)); exact HO_3.out⟩, ⟨by repeat (first | (with_reducible first | exact HB.out | apply below_alloc | apply pw_below_drewN | apply below_drew1) | exact HB.out)⟩⟩
                      · rw [if_neg c14] at H
                        exact absurd H (by simp)
                    · rw [if_neg c12] at H
                      exact absurd H (by simp)
                  · rw [if_neg c11] at H
                    exact absurd H (by simp)
                · rw [if_neg c9] at H
                  exact absurd H (by simp)
              · rw [if_neg c8] at H
                exact absurd H (by simp)
            · rw [if_neg c7] at H
              have c7b0 : decide (x14_1 < (l0.length : Int)) = false := decide_eq_false c7
              clear c7
              by_cases c18 : 0 < (l0.length : Int)
              · rw [if_pos c18] at H
                have c18b0 : decide (0 < (l0.length : Int)) = true := decide_eq_true c18
                have c18b1 : decide (0 < l0.length) = true := decide_eq_true (by omega)
                clear c18
                obtain ⟨ji19, hji19⟩ : ∃ j_ : Int, (Int.tmod (wrap64 (rd l0 0)) 52) = j_ := ⟨_, rfl⟩
                replace H : (if 0 ≤ (ji19) then (if (ji19) < 63 then (if 0 < (x3_1.length : Int) then (some (strOfNums (x3_1.set (0 : Int).toNat (bt (⟨#[97, 98, 99, 100, 101, 102, 103, 104, 105, 106, 107, 108, 109, 110, 111, 112, 113, 114, 115, 116, 117, 118, 119, 120, 121, 122, 65, 66, 67, 68, 69, 70, 71, 72, 73, 74, 75, 76, 77, 78, 79, 80, 81, 82, 83, 84, 85, 86, 87, 88, 89, 90, 48, 49, 50, 51, 52, 53, 54, 55, 56, 57, 95]⟩ : ByteArray) (ji19))))) else (none)) else (none)) else (none)) = some r := by first | (rw [hji19] at H; exact H) | (simp only [hji19] at H ⊢; exact H)
                by_cases c20 : 0 ≤ (ji19)
                · rw [if_pos c20] at H
                  have c20b0 : decide (0 ≤ (ji19)) = true := decide_eq_true c20
                  clear c20
                  by_cases c21 : (ji19) < 63
                  · rw [if_pos c21] at H
                    have c21b0 : decide ((ji19) < 63) = true := decide_eq_true c21
                    clear c21
                    by_cases c23 : 0 < (x3_1.length : Int)
                    · rw [if_pos c23] at H
                      have c23b0 : decide (0 < (x3_1.length : Int)) = true := decide_eq_true c23
                      have c23b1 : decide (0 < x3_1.length) = true := decide_eq_true (by omega)
                      clear c23
                      obtain ⟨y140, hy140⟩ : ∃ y_ : List Int, y_ = (x3_1.set (0 : Int).toNat (bt (⟨#[97, 98, 99, 100, 101, 102, 103, 104, 105, 106, 107, 108, 109, 110, 111, 112, 113, 114, 115, 116, 117, 118, 119, 120, 121, 122, 65, 66, 67, 68, 69, 70, 71, 72, 73, 74, 75, 76, 77, 78, 79, 80, 81, 82, 83, 84, 85, 86, 87, 88, 89, 90, 48, 49, 50, 51, 52, 53, 54, 55, 56, 57, 95]⟩ : ByteArray) (ji19))) := ⟨_, rfl⟩
                      replace H : (some (strOfNums y140)) = some r := by first | (rw [hy140]; with_reducible exact H) | (have H2_ := (Option.bind_some _ _).symm.trans H; rw [hy140]; with_reducible exact H2_) | (have H2_ := (Option.bind_some _ _).symm.trans H; with_reducible exact H2_) | with_reducible exact H | (rw [hy140]; exact H) | exact H
                      have Ny140 := Aside0.mk hy140
                      clear hy140
                      obtain rfl := Option.some.inj H
                      have p139 : 0 ≤ (0 : Int) := (by omega)
                      have q139 : 0 < (l0.length : Int) := of_decide_eq_true (by first | (with_reducible assumption) | assumption)
                      obtain ⟨ad139, e139, hx139_0⟩ := Kd.at_int HR0.out 0 p139 q139
                      cases e139
                      have qi139 : (0 < l0.length) = True := eq_true (by omega)
                      (try rw [show ((0 : Int)).toNat = 0 from rfl] at hx139_0)
                      (try rw [Addr.add_zero'] at hx139_0)
                      replace hx139_0 := (HB.out.cell (World.block_lt_of_cell? w _ hx139_0)).trans hx139_0
                      replace p139 := eq_true p139
                      replace q139 := eq_true q139
                      have p22 : 0 ≤ ((ji19) : Int) := of_decide_eq_true (by first | (with_reducible assumption) | assumption)
                      have q22 : (ji19) < (63 : Int) := of_decide_eq_true (by first | (with_reducible assumption) | assumption)
                      have hx22 := bt_at (⟨#[97, 98, 99, 100, 101, 102, 103, 104, 105, 106, 107, 108, 109, 110, 111, 112, 113, 114, 115, 116, 117, 118, 119, 120, 121, 122, 65, 66, 67, 68, 69, 70, 71, 72, 73, 74, 75, 76, 77, 78, 79, 80, 81, 82, 83, 84, 85, 86, 87, 88, 89, 90, 48, 49, 50, 51, 52, 53, 54, 55, 56, 57, 95]⟩ : ByteArray) (ji19)
                      replace p22 := eq_true p22
                      replace q22 := eq_true q22
                      have p24 : 0 ≤ (0 : Int) := (by omega)
                      have q24 : (0 : Int) < ((x3_1.length : Int) : Int) := of_decide_eq_true (by first | (with_reducible assumption) | assumption)
                      have qi24 : (0 < x3_1.length) = True := eq_true (by omega)
                      obtain ⟨go24, co24, eo24, gb24, gl24, cl24, HG24⟩ := Kd.R_form HO_3.out (by omega)
                      (first | cases eo24 | (injection eo24 with ea_ en_ ec_; (first | subst ea_ | (injection ea_ with ea_; subst ea_)); subst ec_; clear en_))
                      have GB24 := Aside0.mk gb24
                      have GG24 := Aside0.mk HG24
                      clear gb24 gl24 HG24
                      obtain ⟨hx24_0, hf24_0⟩ := Kd.R_celln 0 HO_3.out (0 : Int) p24 q24
                      (try rw [show ((0 : Int)).toNat = 0 from rfl] at hx24_0)
                      (try simp only [Nat.reduceMul, Nat.zero_mul, Nat.zero_add, Nat.reduceAdd] at hx24_0)
                      (try rw [show ((0 : Int)).toNat = 0 from rfl] at hf24_0)
                      (try simp only [Nat.reduceMul, Nat.zero_mul, Nat.zero_add, Nat.reduceAdd] at hf24_0)
                      replace p24 := eq_true p24
                      replace q24 := eq_true q24
                      have HP25 := Kd.R_putg HO_3.out (0 : Int) (bt (⟨#[97, 98, 99, 100, 101, 102, 103, 104, 105, 106, 107, 108, 109, 110, 111, 112, 113, 114, 115, 116, 117, 118, 119, 120, 121, 122, 65, 66, 67, 68, 69, 70, 71, 72, 73, 74, 75, 76, 77, 78, 79, 80, 81, 82, 83, 84, 85, 86, 87, 88, 89, 90, 48, 49, 50, 51, 52, 53, 54, 55, 56, 57, 95]⟩ : ByteArray) (ji19))
                      go_wp2_with (first | ((with_reducible refine gate_store (t := 5) (p := 34) rfl ?_); refine store_event (t := 5) (p := 34) (v := ?vo_w26) (w1 := (wr.setCell ⟨go24, (0 : Int).toNat, none⟩ (.int .u8 (bt (⟨#[97, 98, 99, 100, 101, 102, 103, 104, 105, 106, 107, 108, 109, 110, 111, 112, 113, 114, 115, 116, 117, 118, 119, 120, 121, 122, 65, 66, 67, 68, 69, 70, 71, 72, 73, 74, 75, 76, 77, 78, 79, 80, 81, 82, 83, 84, 85, 86, 87, 88, 89, 90, 48, 49, 50, 51, 52, 53, 54, 55, 56, 57, 95]⟩ : ByteArray) (ji19))))) ?hg ?ho ?hn ?hr ?_; (case ho => rfl); (case hg => rfl); (case hn => rfl); (case hr => first | (go_simp; done) | (go_simp; rfl)); intro w26 hw; have hg : wr.grownBy w26 (some go24) := (by rw [hw]; exact HP25.2); have hp_ : Kd.R (Kd.int .u8) 5 w26 w.heap.size (fun _ => True) (.slice (some ⟨go24, 0, none⟩) x3_1.length co24) y140 := (by rw [hw, Ny140.out]; exact HP25.1); clear HP25; have n0_ := Aside0.mk (hp_); have n1_ := Aside0.mk ((by rw [hw]; exact below_set (HB.out) GB24.out : Below w.heap.size w w26)); clear HO_3; clear HB; have HO_3 := n0_; have HB := n1_; clear n0_ n1_; clear hg hw hp_; have hcv27 := own_string (P := Tryd.prog) Tryd.underlying23 Tryd.underlying5 Tryd.underlying9 (Kd.own_of_R HO_3.out)))
                      go_ret
                      exact ⟨by first | rfl | (simp [errW_none, errW_some] <;> rfl) | (simp only [← hji19]; first | rfl | (simp [errW_none, errW_some] <;> rfl)) | (simp [*, errW_none, errW_some] <;> rfl), by repeat (first | (with_reducible first | exact HB.out | apply below_alloc | apply pw_below_drewN | apply below_drew1) | exact HB.out)⟩
                    · rw [if_neg c23] at H
                      exact absurd H (by simp)
                  · rw [if_neg c21] at H
                    exact absurd H (by simp)
                · rw [if_neg c20] at H
                  exact absurd H (by simp)
              · rw [if_neg c18] at H
                exact absurd H (by simp)
      · rw [if_neg c4] at H
        exact absurd H (by simp)
    · rw [if_neg c3] at H
      exact absurd H (by simp)

/-! ### laws_lgPieces: function 20 -/
def laws_lgPieces.l0 : Nat → List (S76) → List Int → Int → Int → Option ((List (S76)))
  | 0, _, _, _, _ => none
  | k + 1, x3, x10, x11, x12 => if x12 < x11 then (if 0 ≤ x12 then (if x12 < (x10.length : Int) then (if x12 ≥ 1000 then (some x3) else ((laws_idAt.f (rd x10 x12) 40).bind fun t145 => ((laws_idAt.f (rd x10 x12) 1099511627776).bind fun t146 => ((spec_LgEscapes.f).bind fun t148 => (if t145 ≥ (t148.length : Int) then ((some (([(wrap64 (Int.tdiv t146 40)) % 256, ((wrap64 (Int.tdiv t146 40)) / 256) % 256] : List Int) : List Int)).bind fun y151 => (if 0 ≤ (wrap64 (1 + (Int.tmod t145 2))) then (if (wrap64 (1 + (Int.tmod t145 2))) ≤ (y151.length : Int) then ((spec_AnWord.f k (y151.take ((wrap64 (1 + (Int.tmod t145 2))) : Int).toNat)).bind fun t158 => (if x3.length < 5864062014805 then (laws_lgPieces.l0 k (x3 ++ [(⟨(-1), t158⟩ : S76)]) x10 x11 (wrap64 (x12 + 1))) else (none))) else (none)) else (none))) else (if x3.length < 5864062014805 then (laws_lgPieces.l0 k (x3 ++ [(⟨t145, (⟨#[]⟩ : ByteArray)⟩ : S76)]) x10 x11 (wrap64 (x12 + 1))) else (none))))))) else (none)) else (none)) else (some x3)
def laws_lgPieces.f (k : Nat) (l0 : List Int) : Option ((List (S76))) := laws_lgPieces.l0 k (([] : List (S76))) l0 (l0.length : Int) 0
theorem laws_lgPieces.mono_l : ∀ k, (∀ y0 y1 y2 y3, LeO (laws_lgPieces.l0 k y0 y1 y2 y3) (laws_lgPieces.l0 (k + 1) y0 y1 y2 y3))
  | 0 => fun _ _ _ _ r h => by simp [laws_lgPieces.l0] at h
  | k + 1 => by
    have ih0 := laws_lgPieces.mono_l k
    · intro y0 y1 y2 y3
      unfold laws_lgPieces.l0
      repeat' first
      | (with_reducible exact ih0 _ _ _ _)
      | (with_reducible exact spec_AnWord.mono _ _)
      | (with_reducible exact LeO.refl _)
      | (with_reducible exact LeO.none _)
      | (with_reducible refine LeO.ite ?_ ?_)
      | (with_reducible refine LeO.bind ?_ (fun _ => ?_))
      | exact ih0 _ _ _ _
      | exact spec_AnWord.mono _ _
      | exact LeO.none _
      | refine LeO.ite ?_ ?_
      | refine LeO.bind ?_ (fun _ => ?_)
theorem laws_lgPieces.mono : ∀ a0 k, LeO (laws_lgPieces.f k a0) (laws_lgPieces.f (k + 1) a0) := by
  intro a0 k
  have ih0 := laws_lgPieces.mono_l k
  unfold laws_lgPieces.f
  repeat' first
      | (with_reducible exact ih0 _ _ _ _)
      | (with_reducible exact spec_AnWord.mono _ _)
      | (with_reducible exact LeO.refl _)
      | (with_reducible exact LeO.none _)
      | (with_reducible refine LeO.ite ?_ ?_)
      | (with_reducible refine LeO.bind ?_ (fun _ => ?_))
      | exact ih0 _ _ _ _
      | exact spec_AnWord.mono _ _
      | exact LeO.none _
      | refine LeO.ite ?_ ?_
      | refine LeO.bind ?_ (fun _ => ?_)
set_option maxHeartbeats 8000000 in
set_option maxRecDepth 100000 in
theorem laws_lgPieces.calls (k : Nat) (A0 : Option Addr) (c0 : Nat) (l0 : List Int) (r : List (S76)) (w : World) (hr0 : Kd.C (Kd.int .i64) w A0 l0.length l0) (hc0 : l0.length ≤ c0) (h : laws_lgPieces.f k l0 = some r) :
    Calls Tryd.prog 20 #[.slice A0 l0.length c0] w fun e w' => ∃ v0_ : Value, e = .returned (v0_) ∧ Kd.R k76 76 w' w.heap.size (fun _ => True) v0_ r ∧ Below w.heap.size w w' := by
  have hu76 := Tryd.underlying76
  have HR0 := Aside0.mk hr0
  have HC0 := Aside0.mk hc0
  clear hr0 hc0
  have HB := Aside0.mk (Below.refl w.heap.size w)
  have H : (laws_lgPieces.l0 k (([] : List (S76))) l0 (l0.length : Int) 0) = some r := h
  clear h
  obtain ⟨y141, hy141⟩ : ∃ y_ : List (S76), y_ = (([] : List (S76))) := ⟨_, rfl⟩
  replace H : (laws_lgPieces.l0 k y141 l0 (l0.length : Int) 0) = some r := by first | (rw [hy141]; with_reducible exact H) | (have H2_ := (Option.bind_some _ _).symm.trans H; rw [hy141]; with_reducible exact H2_) | (have H2_ := (Option.bind_some _ _).symm.trans H; with_reducible exact H2_) | with_reducible exact H | (rw [hy141]; exact H) | exact H
  have Ny141 := Aside0.mk hy141
  clear hy141
  have H' := Aside0.mk H
  clear H
  go_enter Tryd.func20, Tryd.ntmps20
  go_wp2_with (first | ((with_reducible refine gate_dst (N := 9) rfl ?_); refine Kd.R_lit k76 _ 76 ?hg (N := 9) ?hd (xs := ([] : List (S76))) (inner := []) (ok := fun _ => True) (okp := fun _ => True) ?hr ?hp (fun _ hk => hk) trivial (Below.refl _ _) (Nat.le_refl _) (by simp) ?_; (case hd => rfl); (case hg => rfl); (case hr => first | (go_simp; done) | (go_simp; rfl)); (case hp => exact (Reps.none _ _)); intro v142 w2 ho3 hb hg_ hnew_; clear hg_ hnew_; (first | rw [← Ny141.out] at ho3 | (simp only [Int.reduceToNat] at ho3; rw [← Ny141.out] at ho3)); have n0_ := Aside0.mk (Kd.R_lower ho3 (below_size (by repeat (first | (with_reducible first | exact HB.out | apply below_alloc | apply pw_below_drewN | apply below_drew1) | exact HB.out)))); have n1_ := Aside0.mk (below_step (by repeat (first | (with_reducible first | exact HB.out | apply below_alloc | apply pw_below_drewN | apply below_drew1) | exact HB.out)) hb); clear HB; have HO143 := n0_; have HB := n1_; clear n0_ n1_; clear hb ho3))
  go_loopg [3, 12] k (fun kq v3 v12 w' => ∃ (x3_1 : List (S76)) (x12_1 : Int), v12 = .int .i64 x12_1 ∧ Aside0 (laws_lgPieces.l0 kq x3_1 l0 (l0.length : Int) x12_1 = some r) ∧ Aside0 (kq ≤ k) ∧ Aside0 (Kd.R k76 76 w' w.heap.size (fun _ => True) v3 x3_1) ∧ Aside0 (Below w.heap.size w w'))
  case atStart => exact ⟨(y141), (0), (by first | rfl | (simp; done) | (simp [*]; done)), H', ⟨Nat.le_refl _⟩, ⟨by (with_reducible repeat (first | apply Kd.R_alloc | apply Kd.R_drewN | apply Kd.R_drew)); exact HO143.out⟩, ⟨by repeat (first | (with_reducible first | exact HB.out | apply below_alloc | apply pw_below_drewN | apply below_drew1) | exact HB.out)⟩⟩
  case round =>
    clear H'
    try clear c2
    try clear p2
    obtain ⟨x3_1, x12_1, rfl, HA, HK1, HO_3, HB⟩ := hrel
    cases gk with
    | zero => exact absurd HA.out (by simp [laws_lgPieces.l0])
    | succ k1 =>
      have H := HA.out
      clear HA
      simp only [laws_lgPieces.l0] at H
      by_cases c4 : x12_1 < (l0.length : Int)
      · rw [if_pos c4] at H
        have c4b0 : decide (x12_1 < (l0.length : Int)) = true := decide_eq_true c4
        clear c4
        by_cases c5 : 0 ≤ x12_1
        · rw [if_pos c5] at H
          have c5b0 : decide (0 ≤ x12_1) = true := decide_eq_true c5
          clear c5
          by_cases c6 : x12_1 < (l0.length : Int)
          · rw [if_pos c6] at H
            have c6b0 : decide (x12_1 < (l0.length : Int)) = true := decide_eq_true c6
            clear c6
            by_cases c7 : x12_1 ≥ 1000
            · rw [if_pos c7] at H
              have c7b0 : decide (1000 ≤ x12_1) = true := decide_eq_true c7
              clear c7
              obtain rfl := Option.some.inj H
              have p144 : 0 ≤ (x12_1 : Int) := of_decide_eq_true (by first | (with_reducible assumption) | assumption)
              have q144 : x12_1 < (l0.length : Int) := of_decide_eq_true (by first | (with_reducible assumption) | assumption)
              obtain ⟨ad144, e144, hx144_0⟩ := Kd.at_int HR0.out x12_1 p144 q144
              cases e144
              replace hx144_0 := (HB.out.cell (World.block_lt_of_cell? w _ hx144_0)).trans hx144_0
              replace p144 := eq_true p144
              replace q144 := eq_true q144
              go_wp2
              go_ret
              exact ⟨_, by first | rfl | (simp [errW_none, errW_some] <;> rfl) | (simp [*, errW_none, errW_some] <;> rfl), by (with_reducible repeat (first | apply Kd.R_alloc | apply Kd.R_drewN | apply Kd.R_drew)); exact HO_3.out, by repeat (first | (with_reducible first | exact HB.out | apply below_alloc | apply pw_below_drewN | apply below_drew1) | exact HB.out)⟩
            · rw [if_neg c7] at H
              have c7b0 : decide (1000 ≤ x12_1) = false := decide_eq_false c7
              clear c7
              replace H := Option.bind_eq_some_iff.mp H
              obtain ⟨t145, A80, H⟩ := H
              replace H : ((laws_idAt.f (rd l0 x12_1) 1099511627776).bind fun t146 => ((spec_LgEscapes.f).bind fun t148 => (if t145 ≥ (t148.length : Int) then ((some (([(wrap64 (Int.tdiv t146 40)) % 256, ((wrap64 (Int.tdiv t146 40)) / 256) % 256] : List Int) : List Int)).bind fun y151 => (if 0 ≤ (wrap64 (1 + (Int.tmod t145 2))) then (if (wrap64 (1 + (Int.tmod t145 2))) ≤ (y151.length : Int) then ((spec_AnWord.f k1 (y151.take ((wrap64 (1 + (Int.tmod t145 2))) : Int).toNat)).bind fun t158 => (if x3_1.length < 5864062014805 then (laws_lgPieces.l0 k1 (x3_1 ++ [(⟨(-1), t158⟩ : S76)]) l0 (l0.length : Int) (wrap64 (x12_1 + 1))) else (none))) else (none)) else (none))) else (if x3_1.length < 5864062014805 then (laws_lgPieces.l0 k1 (x3_1 ++ [(⟨t145, (⟨#[]⟩ : ByteArray)⟩ : S76)]) l0 (l0.length : Int) (wrap64 (x12_1 + 1))) else (none))))) = some r := H
              have A8 := Aside0.mk A80
              clear A80
              replace H := Option.bind_eq_some_iff.mp H
              obtain ⟨t146, A90, H⟩ := H
              replace H : ((spec_LgEscapes.f).bind fun t148 => (if t145 ≥ (t148.length : Int) then ((some (([(wrap64 (Int.tdiv t146 40)) % 256, ((wrap64 (Int.tdiv t146 40)) / 256) % 256] : List Int) : List Int)).bind fun y151 => (if 0 ≤ (wrap64 (1 + (Int.tmod t145 2))) then (if (wrap64 (1 + (Int.tmod t145 2))) ≤ (y151.length : Int) then ((spec_AnWord.f k1 (y151.take ((wrap64 (1 + (Int.tmod t145 2))) : Int).toNat)).bind fun t158 => (if x3_1.length < 5864062014805 then (laws_lgPieces.l0 k1 (x3_1 ++ [(⟨(-1), t158⟩ : S76)]) l0 (l0.length : Int) (wrap64 (x12_1 + 1))) else (none))) else (none)) else (none))) else (if x3_1.length < 5864062014805 then (laws_lgPieces.l0 k1 (x3_1 ++ [(⟨t145, (⟨#[]⟩ : ByteArray)⟩ : S76)]) l0 (l0.length : Int) (wrap64 (x12_1 + 1))) else (none)))) = some r := H
              have A9 := Aside0.mk A90
              clear A90
              replace H := Option.bind_eq_some_iff.mp H
              obtain ⟨t148, A100, H⟩ := H
              replace H : (if t145 ≥ (t148.length : Int) then ((some (([(wrap64 (Int.tdiv t146 40)) % 256, ((wrap64 (Int.tdiv t146 40)) / 256) % 256] : List Int) : List Int)).bind fun y151 => (if 0 ≤ (wrap64 (1 + (Int.tmod t145 2))) then (if (wrap64 (1 + (Int.tmod t145 2))) ≤ (y151.length : Int) then ((spec_AnWord.f k1 (y151.take ((wrap64 (1 + (Int.tmod t145 2))) : Int).toNat)).bind fun t158 => (if x3_1.length < 5864062014805 then (laws_lgPieces.l0 k1 (x3_1 ++ [(⟨(-1), t158⟩ : S76)]) l0 (l0.length : Int) (wrap64 (x12_1 + 1))) else (none))) else (none)) else (none))) else (if x3_1.length < 5864062014805 then (laws_lgPieces.l0 k1 (x3_1 ++ [(⟨t145, (⟨#[]⟩ : ByteArray)⟩ : S76)]) l0 (l0.length : Int) (wrap64 (x12_1 + 1))) else (none))) = some r := H
              have A10 := Aside0.mk A100
              clear A100
              by_cases c11 : t145 ≥ (t148.length : Int)
              · rw [if_pos c11] at H
                have c11b0 : decide ((t148.length : Int) ≤ t145) = true := decide_eq_true c11
                clear c11
                obtain ⟨y151, hy151⟩ : ∃ y_ : List Int, y_ = (([(wrap64 (Int.tdiv t146 40)) % 256, ((wrap64 (Int.tdiv t146 40)) / 256) % 256] : List Int)) := ⟨_, rfl⟩
                replace H : (if 0 ≤ (wrap64 (1 + (Int.tmod t145 2))) then (if (wrap64 (1 + (Int.tmod t145 2))) ≤ (y151.length : Int) then ((spec_AnWord.f k1 (y151.take ((wrap64 (1 + (Int.tmod t145 2))) : Int).toNat)).bind fun t158 => (if x3_1.length < 5864062014805 then (laws_lgPieces.l0 k1 (x3_1 ++ [(⟨(-1), t158⟩ : S76)]) l0 (l0.length : Int) (wrap64 (x12_1 + 1))) else (none))) else (none)) else (none)) = some r := by first | (rw [hy151]; with_reducible exact H) | (have H2_ := (Option.bind_some _ _).symm.trans H; rw [hy151]; with_reducible exact H2_) | (have H2_ := (Option.bind_some _ _).symm.trans H; with_reducible exact H2_) | with_reducible exact H | (rw [hy151]; exact H) | exact H
                have Ny151 := Aside0.mk hy151
                clear hy151
                obtain ⟨ji12, hji12⟩ : ∃ j_ : Int, (wrap64 (1 + (Int.tmod t145 2))) = j_ := ⟨_, rfl⟩
                replace H : (if 0 ≤ (ji12) then (if (ji12) ≤ (y151.length : Int) then ((spec_AnWord.f k1 (y151.take ((ji12) : Int).toNat)).bind fun t158 => (if x3_1.length < 5864062014805 then (laws_lgPieces.l0 k1 (x3_1 ++ [(⟨(-1), t158⟩ : S76)]) l0 (l0.length : Int) (wrap64 (x12_1 + 1))) else (none))) else (none)) else (none)) = some r := by first | (rw [hji12] at H; exact H) | (simp only [hji12] at H ⊢; exact H)
                (try rw [hji12] at A8)
                (try rw [hji12] at A9)
                (try rw [hji12] at A10)
                have hji12w : (IntKind.i64.wrap (1 + (Int.tmod t145 2))) = ji12 := (i64_w _).trans hji12
                by_cases c13 : 0 ≤ (ji12)
                · rw [if_pos c13] at H
                  have c13b0 := eq_true c13
                  have c13b1 : decide (0 ≤ (ji12)) = true := decide_eq_true c13
                  clear c13
                  by_cases c14 : (ji12) ≤ (y151.length : Int)
                  · rw [if_pos c14] at H
                    have c14b0 := eq_true c14
                    have c14b1 : decide ((ji12) ≤ (y151.length : Int)) = true := decide_eq_true c14
                    clear c14
                    obtain ⟨y154, hy154⟩ : ∃ y_ : List Int, y_ = (y151.take ((ji12) : Int).toNat) := ⟨_, rfl⟩
                    replace H : ((spec_AnWord.f k1 y154).bind fun t158 => (if x3_1.length < 5864062014805 then (laws_lgPieces.l0 k1 (x3_1 ++ [(⟨(-1), t158⟩ : S76)]) l0 (l0.length : Int) (wrap64 (x12_1 + 1))) else (none))) = some r := by first | (rw [hy154]; with_reducible exact H) | (have H2_ := (Option.bind_some _ _).symm.trans H; rw [hy154]; with_reducible exact H2_) | (have H2_ := (Option.bind_some _ _).symm.trans H; with_reducible exact H2_) | with_reducible exact H | (rw [hy154]; exact H) | exact H
                    have Ny154 := Aside0.mk hy154
                    clear hy154
                    replace H := Option.bind_eq_some_iff.mp H
                    obtain ⟨t158, A150, H⟩ := H
                    replace H : (if x3_1.length < 5864062014805 then (laws_lgPieces.l0 k1 (x3_1 ++ [(⟨(-1), t158⟩ : S76)]) l0 (l0.length : Int) (wrap64 (x12_1 + 1))) else (none)) = some r := H
                    have A15 := Aside0.mk A150
                    clear A150
                    by_cases c16 : x3_1.length < 5864062014805
                    · rw [if_pos c16] at H
                      have LMc16 := Aside0.mk c16
                      clear c16
                      obtain ⟨y159, hy159⟩ : ∃ y_ : List (S76), y_ = (x3_1 ++ [(⟨(-1), t158⟩ : S76)]) := ⟨_, rfl⟩
                      replace H : (laws_lgPieces.l0 k1 y159 l0 (l0.length : Int) (wrap64 (x12_1 + 1))) = some r := by first | (rw [hy159]; with_reducible exact H) | (have H2_ := (Option.bind_some _ _).symm.trans H; rw [hy159]; with_reducible exact H2_) | (have H2_ := (Option.bind_some _ _).symm.trans H; with_reducible exact H2_) | with_reducible exact H | (rw [hy159]; exact H) | exact H
                      have Ny159 := Aside0.mk hy159
                      clear hy159
                      have H' := Aside0.mk H
                      clear H
                      have p144 : 0 ≤ (x12_1 : Int) := of_decide_eq_true (by first | (with_reducible assumption) | assumption)
                      have q144 : x12_1 < (l0.length : Int) := of_decide_eq_true (by first | (with_reducible assumption) | assumption)
                      obtain ⟨ad144, e144, hx144_0⟩ := Kd.at_int HR0.out x12_1 p144 q144
                      cases e144
                      replace hx144_0 := (HB.out.cell (World.block_lt_of_cell? w _ hx144_0)).trans hx144_0
                      replace p144 := eq_true p144
                      replace q144 := eq_true q144
                      go_wp2_with (first | ((with_reducible refine gate_callee (f := 34) rfl ?_); refine goesL_ (some 20) rfl rfl Tryd.func34 (by kernel_rfl) rfl #[.int .i64 (rd l0 x12_1), .int .i64 40] rfl (by (try simp only [List.map_toArray, List.map_cons, List.map_nil]); first | done | rfl | (simp only [List.length_drop, List.length_take]; rfl)) ?_; (with_reducible refine (laws_idAt.calls (rd l0 x12_1) 40 t145 _ A8.out).mono ?_); rintro e w' ⟨rfl, ⟨nd, rfl⟩⟩; refine ⟨_, rfl, ?_⟩; (try (rw [drewN_self wr]; generalize hq_ : World.drewN wr _ = wr; have n0_ : Aside0 (Kd.R k76 76 wr w.heap.size (fun _ => True) u3 x3_1) := ⟨by rw [← hq_]; exact (by (with_reducible repeat (first | apply Kd.R_alloc | apply Kd.R_drewN | apply Kd.R_drew)); exact HO_3.out)⟩; have n1_ : Aside0 (Below w.heap.size w wr) := ⟨by rw [← hq_]; exact (by repeat (first | (with_reducible first | exact HB.out | apply below_alloc | apply pw_below_drewN | apply below_drew1) | exact HB.out))⟩; clear HO_3 HB hq_; have HO_3 := n0_; have HB := n1_; clear n0_ n1_))) | ((with_reducible refine gate_callee (f := 34) rfl ?_); refine goesL_ (some 22) rfl rfl Tryd.func34 (by kernel_rfl) rfl #[.int .i64 (rd l0 x12_1), .int .i64 1099511627776] rfl (by (try simp only [List.map_toArray, List.map_cons, List.map_nil]); first | done | rfl | (simp only [List.length_drop, List.length_take]; rfl)) ?_; (with_reducible refine (laws_idAt.calls (rd l0 x12_1) 1099511627776 t146 _ A9.out).mono ?_); rintro e w' ⟨rfl, ⟨nd, rfl⟩⟩; refine ⟨_, rfl, ?_⟩; (try (rw [drewN_self wr]; generalize hq_ : World.drewN wr _ = wr; have n0_ : Aside0 (Kd.R k76 76 wr w.heap.size (fun _ => True) u3 x3_1) := ⟨by rw [← hq_]; exact (by (with_reducible repeat (first | apply Kd.R_alloc | apply Kd.R_drewN | apply Kd.R_drew)); exact HO_3.out)⟩; have n1_ : Aside0 (Below w.heap.size w wr) := ⟨by rw [← hq_]; exact (by repeat (first | (with_reducible first | exact HB.out | apply below_alloc | apply pw_below_drewN | apply below_drew1) | exact HB.out))⟩; clear HO_3 HB hq_; have HO_3 := n0_; have HB := n1_; clear n0_ n1_))) | ((with_reducible refine gate_dst (N := 8) rfl ?_); refine box_event ?hg (N := 8) ?hd (cs := #[.int .i64 0, .string (⟨#[]⟩ : ByteArray)]) (t := 76) ?hr ?_; (case hd => rfl); (case hg => rfl); (case hr => first | (go_simp; done) | (go_simp; rfl)); intro gb147 hg w17 hbox hb; have n0_ := Aside0.mk (Kd.R_below (Kd.R_elderB (by (with_reducible repeat (first | apply Kd.R_alloc | apply Kd.R_drewN | apply Kd.R_drew)); exact HO_3.out) gb147 (Nat.le_of_eq hg.symm)) hb); have n1_ := Aside0.mk (below_step (by repeat (first | (with_reducible first | exact HB.out | apply below_alloc | apply pw_below_drewN | apply below_drew1) | exact HB.out)) hb); have n2_ := Aside0.mk (hbox); have n3_ := Aside0.mk ((by rw [hg]; exact (below_size (by repeat (first | (with_reducible first | exact HB.out | apply below_alloc | apply pw_below_drewN | apply below_drew1) | exact HB.out))) : w.heap.size ≤ gb147)); have n4_ := Aside0.mk ((by rw [hg]; exact (below_size (by repeat (first | (with_reducible first | exact HB.out | apply below_alloc | apply pw_below_drewN | apply below_drew1) | exact HB.out))) : w.heap.size ≤ gb147)); clear HO_3; clear HB; have HO_3 := n0_; have HB := n1_; have BK147 := n2_; have GW147 := n3_; have GE147 := n4_; clear n0_ n1_ n2_ n3_ n4_; clear hb hbox hg; have hcz18_0 : w17.cell? ⟨gb147, 0, none⟩ = some (.int .i64 0) := (blk_cell BK147.out 0).trans rfl; have hcz18_1 : w17.cell? ⟨gb147, 1, none⟩ = some (.string (⟨#[]⟩ : ByteArray)) := (blk_cell BK147.out 1).trans rfl; have hfz18_0 := blk_frozen BK147.out 0; have hfz18_1 := blk_frozen BK147.out 1) | ((with_reducible refine gate_callee (f := 33) rfl ?_); refine goesL_ (some 27) rfl rfl Tryd.func33 (by kernel_rfl) rfl #[] rfl (by (try simp only [List.map_toArray, List.map_cons, List.map_nil]); first | done | rfl | (simp only [List.length_drop, List.length_take]; rfl)) ?_; (with_reducible refine (spec_LgEscapes.calls  t148 _ A10.out).mono ?_); rintro e w19 ⟨v149, rfl, ho0, hb⟩; refine ⟨_, rfl, ?_⟩; have n0_ := Aside0.mk (Kd.R_below (by (with_reducible repeat (first | apply Kd.R_alloc | apply Kd.R_drewN | apply Kd.R_drew)); exact (Kd.R_mono (Kd.R_far (p := ⟨gb147, 1, none⟩) (Kd.R_far (p := ⟨gb147, 0, none⟩) (Kd.R_mono HO_3.out (fun k_ hk => (⟨hk, hk.2⟩ : _ ∧ k_ ≠ gb147))) (fun _ hk => hk.2) (.int .i64 t145)) (fun _ hk => hk.2) (.string (⟨#[]⟩ : ByteArray))) (fun _ h_ => h_.1))) hb); have n1_ := Aside0.mk (Kd.R_lower ho0 (below_size (by repeat (first | (with_reducible first | exact HB.out | apply below_alloc | apply pw_below_drewN | apply below_drew1 | refine below_set ?_ GE147.out) | exact HB.out)))); have n2_ := Aside0.mk (blk_below (g := gb147) (o := .cells #[.int .i64 t145, .string (⟨#[]⟩ : ByteArray)] 76 (0, 0)) (by (with_reducible repeat (first | refine blk_drewN ?_ _ | refine blk_drew ?_ | refine blk_alloc ?_ _)); refine blk_put (cs := #[.int .i64 t145, .string (⟨#[]⟩ : ByteArray)]) ?_ 1 _ rfl; (with_reducible repeat (first | refine blk_drewN ?_ _ | refine blk_drew ?_ | refine blk_alloc ?_ _)); refine blk_put (cs := #[.int .i64 0, .string (⟨#[]⟩ : ByteArray)]) ?_ 0 _ rfl; (with_reducible repeat (first | refine blk_drewN ?_ _ | refine blk_drew ?_ | refine blk_alloc ?_ _)); exact BK147.out) hb); have n3_ := Aside0.mk (below_step (by repeat (first | (with_reducible first | exact HB.out | apply below_alloc | apply pw_below_drewN | apply below_drew1 | refine below_set ?_ GE147.out) | exact HB.out)) hb); clear HO_3; clear BK147; clear HB; have HO_3 := n0_; have HO150 := n1_; have BK147 := n2_; have HB := n3_; clear n0_ n1_ n2_ n3_; (try clear hb); (try clear hb2); (try clear hk); (try clear hi); (try clear ho0); obtain ⟨Ao20, co20, eo20⟩ := Kd.R_slice HO150.out; subst eo20) | ((with_reducible refine gate_dst (N := 35) rfl ?_); refine Kd.R_lit (Kd.int .u8) _ 5 ?hg (N := 35) ?hd (xs := ([(wrap64 (Int.tdiv t146 40)) % 256, ((wrap64 (Int.tdiv t146 40)) / 256) % 256] : List Int)) (inner := [.int .u8 ((wrap64 (Int.tdiv t146 40)) % 256), .int .u8 (((wrap64 (Int.tdiv t146 40)) / 256) % 256)]) (ok := fun _ => True) (okp := fun _ => True) ?hr ?hp (fun _ hk => hk) trivial (Below.refl _ _) (Nat.le_refl _) (by simp) ?_; (case hd => rfl); (case hg => rfl); (case hr => first | (go_simp; done) | (go_simp; rfl)); (case hp => exact (Reps.one (show Kd.M (Kd.int .u8) _ _ _ ((wrap64 (Int.tdiv t146 40)) % 256) [.int .u8 ((wrap64 (Int.tdiv t146 40)) % 256)] from rfl) (Reps.one (show Kd.M (Kd.int .u8) _ _ _ (((wrap64 (Int.tdiv t146 40)) / 256) % 256) [.int .u8 (((wrap64 (Int.tdiv t146 40)) / 256) % 256)] from rfl) (Reps.none _ _)))); intro v152 w21 ho22 hb hg_ hnew_; clear hg_ hnew_; (first | rw [← Ny151.out] at ho22 | (simp only [Int.reduceToNat] at ho22; rw [← Ny151.out] at ho22)); have n0_ := Aside0.mk (Kd.R_below (by (with_reducible repeat (first | apply Kd.R_alloc | apply Kd.R_drewN | apply Kd.R_drew)); exact HO_3.out) hb); have n1_ := Aside0.mk (Kd.R_below (by (with_reducible repeat (first | apply Kd.R_alloc | apply Kd.R_drewN | apply Kd.R_drew)); exact HO150.out) hb); have n2_ := Aside0.mk (Kd.R_lower ho22 (below_size (by repeat (first | (with_reducible first | exact HB.out | apply below_alloc | apply pw_below_drewN | apply below_drew1 | refine below_set ?_ GE147.out) | exact HB.out)))); have n3_ := Aside0.mk (blk_below (g := gb147) (o := .cells #[.int .i64 t145, .string (⟨#[]⟩ : ByteArray)] 76 (0, 0)) (by (with_reducible repeat (first | refine blk_drewN ?_ _ | refine blk_drew ?_ | refine blk_alloc ?_ _)); exact BK147.out) hb); have n4_ := Aside0.mk (below_step (by repeat (first | (with_reducible first | exact HB.out | apply below_alloc | apply pw_below_drewN | apply below_drew1 | refine below_set ?_ GE147.out) | exact HB.out)) hb); clear HO_3; clear HO150; clear BK147; clear HB; have HO_3 := n0_; have HO150 := n1_; have HO153 := n2_; have BK147 := n3_; have HB := n4_; clear n0_ n1_ n2_ n3_ n4_; clear hb ho22; obtain ⟨Ao24, co24, eo24⟩ := Kd.R_slice HO153.out; subst eo24; have q23 : ((ji12) : Int) ≤ ((y151.length : Int) : Int) := of_decide_eq_true (by first | (with_reducible assumption) | assumption); obtain ⟨i023, hi023, _, hsz23, _⟩ := info_parts info5; have hroom23 : y151.length ≤ co24 := (Kd.R_reads' HO153.out).2.1; have hC23 : Kd.C (Kd.int .u8) _ Ao24 y151.length y151 := (Kd.R_reads' HO153.out).2.2; have hcut23 := cut_to (P := Tryd.prog) 23 5 .i64 Tryd.underlying23 hi023 Ao24 y151.length co24 (ji12) (of_decide_eq_true (by first | (with_reducible assumption) | assumption)) q23 hroom23; have hr23 := Kd.C_take (m := ((ji12) : Int).toNat) hC23 (by omega); have hy23 : y154.length = ((ji12) : Int).toNat := (by rw [Ny154.out, List.length_take]; omega); rw [← Ny154.out] at hr23; rw [← hy23] at hcut23; have HR157 := Aside0.mk hr23; have HC157 := Aside0.mk (show y154.length ≤ co24 from by omega); clear hr23 hC23 hroom23 hi023 hsz23; have KY23 := Aside0.mk hy23; clear hy23; have KL23 := Aside0.mk (show ((ji12) : Int).toNat ≤ y151.length from by omega); replace q23 := eq_true q23) | ((with_reducible refine gate_callee (f := 35) rfl ?_); refine goesL_ (some 40) rfl rfl Tryd.func35 (by kernel_rfl) rfl #[.slice Ao24 y154.length co24] rfl (by (try simp only [List.map_toArray, List.map_cons, List.map_nil]); first | done | rfl | (simp only [List.length_drop, List.length_take]; rfl)) ?_; (with_reducible refine (spec_AnWord.calls k1 _ _ y154 t158 _ ?side1 ?side2 A15.out).mono ?_); (case side1 => repeat (first | exact (by repeat (first | (with_reducible exact HR157.out) | (with_reducible refine Kd.C_alloc ?_ _) | (with_reducible refine Kd.C_drewN ?_ _) | (with_reducible refine Kd.C_drew ?_) | exact HR157.out)) | (with_reducible refine Kd.C_alloc ?_ _) | (with_reducible refine Kd.C_drewN ?_ _) | (with_reducible refine Kd.C_drew ?_))); (case side2 => exact HC157.out); rintro e w25 ⟨rfl, hb⟩; refine ⟨_, rfl, ?_⟩; have n0_ := Aside0.mk (Kd.R_below (by (with_reducible repeat (first | apply Kd.R_alloc | apply Kd.R_drewN | apply Kd.R_drew)); exact HO_3.out) hb); have n1_ := Aside0.mk (Kd.R_below (by (with_reducible repeat (first | apply Kd.R_alloc | apply Kd.R_drewN | apply Kd.R_drew)); exact HO150.out) hb); have n2_ := Aside0.mk (Kd.R_below (by (with_reducible repeat (first | apply Kd.R_alloc | apply Kd.R_drewN | apply Kd.R_drew)); exact HO153.out) hb); have n3_ := Aside0.mk (blk_below (g := gb147) (o := .cells #[.int .i64 t145, .string (⟨#[]⟩ : ByteArray)] 76 (0, 0)) (by (with_reducible repeat (first | refine blk_drewN ?_ _ | refine blk_drew ?_ | refine blk_alloc ?_ _)); exact BK147.out) hb); have n4_ := Aside0.mk (Kd.C_below (by repeat (first | (with_reducible exact HR157.out) | (with_reducible refine Kd.C_alloc ?_ _) | (with_reducible refine Kd.C_drewN ?_ _) | (with_reducible refine Kd.C_drew ?_) | exact HR157.out)) hb); have n5_ := Aside0.mk (below_step (by repeat (first | (with_reducible first | exact HB.out | apply below_alloc | apply pw_below_drewN | apply below_drew1 | refine below_set ?_ GE147.out) | exact HB.out)) hb); clear HO_3; clear HO150; clear HO153; clear BK147; clear HR157; clear HB; have HO_3 := n0_; have HO150 := n1_; have HO153 := n2_; have BK147 := n3_; have HR157 := n4_; have HB := n5_; clear n0_ n1_ n2_ n3_ n4_ n5_; (try clear hb); (try clear hb2); (try clear hk); (try clear hi); have hcz26_0 : w25.cell? ⟨gb147, 0, none⟩ = some (.int .i64 t145) := (blk_cell BK147.out 0).trans rfl; have hcz26_1 : w25.cell? ⟨gb147, 1, none⟩ = some (.string (⟨#[]⟩ : ByteArray)) := (blk_cell BK147.out 1).trans rfl; have hfz26_0 := blk_frozen BK147.out 0; have hfz26_1 := blk_frozen BK147.out 1) | ((with_reducible refine gate_builtin (b := .append) (xs := #[.tmp 42, .tmp 44]) rfl ?_); at_builtin; refine Kd.R_append k76 (w0 := w) w.heap.size rfl (.tmp 42) (.tmp 44) 52 76 (.agg #[(.int .i64 0), (.string ⟨#[]⟩)]) 24 rfl Tryd.underlying52 info76 rfl (by decide) (by omega) u3 x3_1 (⟨(-1), t158⟩ : S76) [.int .i64 (-1), .string t158] (fun k_ => k_ ≠ gb147) (fun _ => False) rfl (by first | (go_simp; done) | (go_simp; rfl)) ?aP (fun _ hk => hk.elim) ?aF ?aO ?aB ?aS ?aL ?_; (case aP => exact k76_mkM _ _ _ (⟨(-1), t158⟩ : S76)); (case aB => exact (by repeat (first | (with_reducible first | exact HB.out | apply below_alloc | apply pw_below_drewN | apply below_drew1 | refine below_set ?_ GE147.out) | exact HB.out))); (case aF => exact (fun k_ hk => Kd.freshB (g := gb147) (o := .cells #[.int .i64 (-1), .string t158] 76 (0, 0)) (by (with_reducible repeat (first | refine blk_drewN ?_ _ | refine blk_drew ?_ | refine blk_alloc ?_ _)); refine blk_put (cs := #[.int .i64 (-1), .string (⟨#[]⟩ : ByteArray)]) ?_ 1 _ rfl; (with_reducible repeat (first | refine blk_drewN ?_ _ | refine blk_drew ?_ | refine blk_alloc ?_ _)); refine blk_put (cs := #[.int .i64 t145, .string (⟨#[]⟩ : ByteArray)]) ?_ 0 _ rfl; (with_reducible repeat (first | refine blk_drewN ?_ _ | refine blk_drew ?_ | refine blk_alloc ?_ _)); exact BK147.out) k_ hk)); (case aO => exact (by (with_reducible repeat (first | apply Kd.R_alloc | apply Kd.R_drewN | apply Kd.R_drew)); exact Kd.R_mono (Kd.R_far (p := ⟨gb147, 1, none⟩) (Kd.R_far (p := ⟨gb147, 0, none⟩) (Kd.R_mono HO_3.out (fun k_ hk => (⟨hk, hk.2⟩ : _ ∧ k_ ≠ gb147))) (fun _ hk => hk.2) (.int .i64 (-1))) (fun _ hk => hk.2) (.string t158)) (fun _ hk => hk.1.2))); (case aS => exact (below_size (by repeat (first | (with_reducible first | exact HB.out | apply below_alloc | apply pw_below_drewN | apply below_drew1 | refine below_set ?_ GE147.out) | exact HB.out)))); (case aL => have := LMc16.out; omega); intro v160 w27 ho hb hg hat; rw [← Ny159.out] at ho; have n0_ := Aside0.mk (blk_grown (g := gb147) (o := .cells #[.int .i64 (-1), .string t158] 76 (0, 0)) (by (with_reducible repeat (first | refine blk_drewN ?_ _ | refine blk_drew ?_ | refine blk_alloc ?_ _)); refine blk_put (cs := #[.int .i64 (-1), .string (⟨#[]⟩ : ByteArray)]) ?_ 1 _ rfl; (with_reducible repeat (first | refine blk_drewN ?_ _ | refine blk_drew ?_ | refine blk_alloc ?_ _)); refine blk_put (cs := #[.int .i64 t145, .string (⟨#[]⟩ : ByteArray)]) ?_ 0 _ rfl; (with_reducible repeat (first | refine blk_drewN ?_ _ | refine blk_drew ?_ | refine blk_alloc ?_ _)); exact BK147.out) hg (Kd.R_away HO_3.out (fun _ hk => hk.2))); have n1_ := Aside0.mk (Kd.R_over' (by (with_reducible repeat (first | apply Kd.R_alloc | apply Kd.R_drewN | apply Kd.R_drew)); exact (Kd.R_mono (Kd.R_far (p := ⟨gb147, 1, none⟩) (Kd.R_far (p := ⟨gb147, 0, none⟩) (Kd.R_types HO150.out BK147.out (by decide)) (fun _ hk => hk.2) (.int .i64 (-1))) (fun _ hk => hk.2) (.string t158)) (fun _ h_ => h_.1))) (Kd.R_typed (by (with_reducible repeat (first | apply Kd.R_alloc | apply Kd.R_drewN | apply Kd.R_drew)); exact (Kd.R_mono (Kd.R_far (p := ⟨gb147, 1, none⟩) (Kd.R_far (p := ⟨gb147, 0, none⟩) (Kd.R_mono HO_3.out (fun k_ hk => (⟨hk, hk.2⟩ : _ ∧ k_ ≠ gb147))) (fun _ hk => hk.2) (.int .i64 (-1))) (fun _ hk => hk.2) (.string t158)) (fun _ h_ => h_.1)))) (by decide) hg); have n2_ := Aside0.mk (Kd.R_over' (by (with_reducible repeat (first | apply Kd.R_alloc | apply Kd.R_drewN | apply Kd.R_drew)); exact (Kd.R_mono (Kd.R_far (p := ⟨gb147, 1, none⟩) (Kd.R_far (p := ⟨gb147, 0, none⟩) (Kd.R_types HO153.out BK147.out (by decide)) (fun _ hk => hk.2) (.int .i64 (-1))) (fun _ hk => hk.2) (.string t158)) (fun _ h_ => h_.1))) (Kd.R_typed (by (with_reducible repeat (first | apply Kd.R_alloc | apply Kd.R_drewN | apply Kd.R_drew)); exact (Kd.R_mono (Kd.R_far (p := ⟨gb147, 1, none⟩) (Kd.R_far (p := ⟨gb147, 0, none⟩) (Kd.R_mono HO_3.out (fun k_ hk => (⟨hk, hk.2⟩ : _ ∧ k_ ≠ gb147))) (fun _ hk => hk.2) (.int .i64 (-1))) (fun _ hk => hk.2) (.string t158)) (fun _ h_ => h_.1)))) (by decide) hg); have n3_ := Aside0.mk (hb); have n4_ := Aside0.mk ((show Kd.C (Kd.int .u8) w27 Ao24 y154.length y154 from by rw [Ny154.out]; exact Kd.C_take (m := ((ji12) : Int).toNat) ((Kd.R_reads' (Kd.R_over' (by (with_reducible repeat (first | apply Kd.R_alloc | apply Kd.R_drewN | apply Kd.R_drew)); exact (Kd.R_mono (Kd.R_far (p := ⟨gb147, 1, none⟩) (Kd.R_far (p := ⟨gb147, 0, none⟩) (Kd.R_types HO153.out BK147.out (by decide)) (fun _ hk => hk.2) (.int .i64 (-1))) (fun _ hk => hk.2) (.string t158)) (fun _ h_ => h_.1))) (Kd.R_typed (by (with_reducible repeat (first | apply Kd.R_alloc | apply Kd.R_drewN | apply Kd.R_drew)); exact (Kd.R_mono (Kd.R_far (p := ⟨gb147, 1, none⟩) (Kd.R_far (p := ⟨gb147, 0, none⟩) (Kd.R_mono HO_3.out (fun k_ hk => (⟨hk, hk.2⟩ : _ ∧ k_ ≠ gb147))) (fun _ hk => hk.2) (.int .i64 (-1))) (fun _ hk => hk.2) (.string t158)) (fun _ h_ => h_.1)))) (by decide) hg)).2.2) KL23.out)); have n5_ := Aside0.mk (ho); clear BK147; clear HO150; clear HO153; clear HB; clear HR157; clear HO_3; have BK147 := n0_; have HO150 := n1_; have HO153 := n2_; have HB := n3_; have HR157 := n4_; have HO161 := n5_; clear n0_ n1_ n2_ n3_ n4_ n5_; clear ho hb hg hat))
                      go_roundg k1
                      case measure => have := HK1.out; omega
                      case rel => exact ⟨(y159), (wrap64 (x12_1 + 1)), (by first | rfl | (simp; done) | (simp [*]; done)), H', ⟨by have := HK1.out; omega⟩, ⟨by (with_reducible repeat (first | apply Kd.R_alloc | apply Kd.R_drewN | apply Kd.R_drew)); exact Kd.R_mono HO161.out (fun _ hk => trivial)⟩, ⟨by repeat (first | (with_reducible first | exact HB.out | apply below_alloc | apply pw_below_drewN | apply below_drew1 | refine below_set ?_ GE147.out) | exact HB.out)⟩⟩
                    · rw [if_neg c16] at H
                      exact absurd H (by simp)
                  · rw [if_neg c14] at H
                    exact absurd H (by simp)
                · rw [if_neg c13] at H
                  exact absurd H (by simp)
              · rw [if_neg c11] at H
                have c11b0 : decide ((t148.length : Int) ≤ t145) = false := decide_eq_false c11
                clear c11
                by_cases c28 : x3_1.length < 5864062014805
                · rw [if_pos c28] at H
                  have LMc28 := Aside0.mk c28
                  clear c28
                  obtain ⟨y162, hy162⟩ : ∃ y_ : List (S76), y_ = (x3_1 ++ [(⟨t145, (⟨#[]⟩ : ByteArray)⟩ : S76)]) := ⟨_, rfl⟩
                  replace H : (laws_lgPieces.l0 k1 y162 l0 (l0.length : Int) (wrap64 (x12_1 + 1))) = some r := by first | (rw [hy162]; with_reducible exact H) | (have H2_ := (Option.bind_some _ _).symm.trans H; rw [hy162]; with_reducible exact H2_) | (have H2_ := (Option.bind_some _ _).symm.trans H; with_reducible exact H2_) | with_reducible exact H | (rw [hy162]; exact H) | exact H
                  have Ny162 := Aside0.mk hy162
                  clear hy162
                  have H' := Aside0.mk H
                  clear H
                  have p144 : 0 ≤ (x12_1 : Int) := of_decide_eq_true (by first | (with_reducible assumption) | assumption)
                  have q144 : x12_1 < (l0.length : Int) := of_decide_eq_true (by first | (with_reducible assumption) | assumption)
                  obtain ⟨ad144, e144, hx144_0⟩ := Kd.at_int HR0.out x12_1 p144 q144
                  cases e144
                  replace hx144_0 := (HB.out.cell (World.block_lt_of_cell? w _ hx144_0)).trans hx144_0
                  replace p144 := eq_true p144
                  replace q144 := eq_true q144
                  go_wp2_with (first | ((with_reducible refine gate_callee (f := 34) rfl ?_); refine goesL_ (some 20) rfl rfl Tryd.func34 (by kernel_rfl) rfl #[.int .i64 (rd l0 x12_1), .int .i64 40] rfl (by (try simp only [List.map_toArray, List.map_cons, List.map_nil]); first | done | rfl | (simp only [List.length_drop, List.length_take]; rfl)) ?_; (with_reducible refine (laws_idAt.calls (rd l0 x12_1) 40 t145 _ A8.out).mono ?_); rintro e w' ⟨rfl, ⟨nd, rfl⟩⟩; refine ⟨_, rfl, ?_⟩; (try (rw [drewN_self wr]; generalize hq_ : World.drewN wr _ = wr; have n0_ : Aside0 (Kd.R k76 76 wr w.heap.size (fun _ => True) u3 x3_1) := ⟨by rw [← hq_]; exact (by (with_reducible repeat (first | apply Kd.R_alloc | apply Kd.R_drewN | apply Kd.R_drew)); exact HO_3.out)⟩; have n1_ : Aside0 (Below w.heap.size w wr) := ⟨by rw [← hq_]; exact (by repeat (first | (with_reducible first | exact HB.out | apply below_alloc | apply pw_below_drewN | apply below_drew1) | exact HB.out))⟩; clear HO_3 HB hq_; have HO_3 := n0_; have HB := n1_; clear n0_ n1_))) | ((with_reducible refine gate_callee (f := 34) rfl ?_); refine goesL_ (some 22) rfl rfl Tryd.func34 (by kernel_rfl) rfl #[.int .i64 (rd l0 x12_1), .int .i64 1099511627776] rfl (by (try simp only [List.map_toArray, List.map_cons, List.map_nil]); first | done | rfl | (simp only [List.length_drop, List.length_take]; rfl)) ?_; (with_reducible refine (laws_idAt.calls (rd l0 x12_1) 1099511627776 t146 _ A9.out).mono ?_); rintro e w' ⟨rfl, ⟨nd, rfl⟩⟩; refine ⟨_, rfl, ?_⟩; (try (rw [drewN_self wr]; generalize hq_ : World.drewN wr _ = wr; have n0_ : Aside0 (Kd.R k76 76 wr w.heap.size (fun _ => True) u3 x3_1) := ⟨by rw [← hq_]; exact (by (with_reducible repeat (first | apply Kd.R_alloc | apply Kd.R_drewN | apply Kd.R_drew)); exact HO_3.out)⟩; have n1_ : Aside0 (Below w.heap.size w wr) := ⟨by rw [← hq_]; exact (by repeat (first | (with_reducible first | exact HB.out | apply below_alloc | apply pw_below_drewN | apply below_drew1) | exact HB.out))⟩; clear HO_3 HB hq_; have HO_3 := n0_; have HB := n1_; clear n0_ n1_))) | ((with_reducible refine gate_dst (N := 8) rfl ?_); refine box_event ?hg (N := 8) ?hd (cs := #[.int .i64 0, .string (⟨#[]⟩ : ByteArray)]) (t := 76) ?hr ?_; (case hd => rfl); (case hg => rfl); (case hr => first | (go_simp; done) | (go_simp; rfl)); intro gb147 hg w29 hbox hb; have n0_ := Aside0.mk (Kd.R_below (Kd.R_elderB (by (with_reducible repeat (first | apply Kd.R_alloc | apply Kd.R_drewN | apply Kd.R_drew)); exact HO_3.out) gb147 (Nat.le_of_eq hg.symm)) hb); have n1_ := Aside0.mk (below_step (by repeat (first | (with_reducible first | exact HB.out | apply below_alloc | apply pw_below_drewN | apply below_drew1) | exact HB.out)) hb); have n2_ := Aside0.mk (hbox); have n3_ := Aside0.mk ((by rw [hg]; exact (below_size (by repeat (first | (with_reducible first | exact HB.out | apply below_alloc | apply pw_below_drewN | apply below_drew1) | exact HB.out))) : w.heap.size ≤ gb147)); have n4_ := Aside0.mk ((by rw [hg]; exact (below_size (by repeat (first | (with_reducible first | exact HB.out | apply below_alloc | apply pw_below_drewN | apply below_drew1) | exact HB.out))) : w.heap.size ≤ gb147)); clear HO_3; clear HB; have HO_3 := n0_; have HB := n1_; have BK147 := n2_; have GW147 := n3_; have GE147 := n4_; clear n0_ n1_ n2_ n3_ n4_; clear hb hbox hg; have hcz30_0 : w29.cell? ⟨gb147, 0, none⟩ = some (.int .i64 0) := (blk_cell BK147.out 0).trans rfl; have hcz30_1 : w29.cell? ⟨gb147, 1, none⟩ = some (.string (⟨#[]⟩ : ByteArray)) := (blk_cell BK147.out 1).trans rfl; have hfz30_0 := blk_frozen BK147.out 0; have hfz30_1 := blk_frozen BK147.out 1) | ((with_reducible refine gate_callee (f := 33) rfl ?_); refine goesL_ (some 27) rfl rfl Tryd.func33 (by kernel_rfl) rfl #[] rfl (by (try simp only [List.map_toArray, List.map_cons, List.map_nil]); first | done | rfl | (simp only [List.length_drop, List.length_take]; rfl)) ?_; (with_reducible refine (spec_LgEscapes.calls  t148 _ A10.out).mono ?_); rintro e w31 ⟨v149, rfl, ho0, hb⟩; refine ⟨_, rfl, ?_⟩; have n0_ := Aside0.mk (Kd.R_below (by (with_reducible repeat (first | apply Kd.R_alloc | apply Kd.R_drewN | apply Kd.R_drew)); exact (Kd.R_mono (Kd.R_far (p := ⟨gb147, 1, none⟩) (Kd.R_far (p := ⟨gb147, 0, none⟩) (Kd.R_mono HO_3.out (fun k_ hk => (⟨hk, hk.2⟩ : _ ∧ k_ ≠ gb147))) (fun _ hk => hk.2) (.int .i64 t145)) (fun _ hk => hk.2) (.string (⟨#[]⟩ : ByteArray))) (fun _ h_ => h_.1))) hb); have n1_ := Aside0.mk (Kd.R_lower ho0 (below_size (by repeat (first | (with_reducible first | exact HB.out | apply below_alloc | apply pw_below_drewN | apply below_drew1 | refine below_set ?_ GE147.out) | exact HB.out)))); have n2_ := Aside0.mk (blk_below (g := gb147) (o := .cells #[.int .i64 t145, .string (⟨#[]⟩ : ByteArray)] 76 (0, 0)) (by (with_reducible repeat (first | refine blk_drewN ?_ _ | refine blk_drew ?_ | refine blk_alloc ?_ _)); refine blk_put (cs := #[.int .i64 t145, .string (⟨#[]⟩ : ByteArray)]) ?_ 1 _ rfl; (with_reducible repeat (first | refine blk_drewN ?_ _ | refine blk_drew ?_ | refine blk_alloc ?_ _)); refine blk_put (cs := #[.int .i64 0, .string (⟨#[]⟩ : ByteArray)]) ?_ 0 _ rfl; (with_reducible repeat (first | refine blk_drewN ?_ _ | refine blk_drew ?_ | refine blk_alloc ?_ _)); exact BK147.out) hb); have n3_ := Aside0.mk (below_step (by repeat (first | (with_reducible first | exact HB.out | apply below_alloc | apply pw_below_drewN | apply below_drew1 | refine below_set ?_ GE147.out) | exact HB.out)) hb); clear HO_3; clear BK147; clear HB; have HO_3 := n0_; have HO150 := n1_; have BK147 := n2_; have HB := n3_; clear n0_ n1_ n2_ n3_; (try clear hb); (try clear hb2); (try clear hk); (try clear hi); (try clear ho0); obtain ⟨Ao32, co32, eo32⟩ := Kd.R_slice HO150.out; subst eo32; have hcz33_0 : w31.cell? ⟨gb147, 0, none⟩ = some (.int .i64 t145) := (blk_cell BK147.out 0).trans rfl; have hcz33_1 : w31.cell? ⟨gb147, 1, none⟩ = some (.string (⟨#[]⟩ : ByteArray)) := (blk_cell BK147.out 1).trans rfl; have hfz33_0 := blk_frozen BK147.out 0; have hfz33_1 := blk_frozen BK147.out 1) | ((with_reducible refine gate_builtin (b := .append) (xs := #[.tmp 42, .tmp 44]) rfl ?_); at_builtin; refine Kd.R_append k76 (w0 := w) w.heap.size rfl (.tmp 42) (.tmp 44) 52 76 (.agg #[(.int .i64 0), (.string ⟨#[]⟩)]) 24 rfl Tryd.underlying52 info76 rfl (by decide) (by omega) u3 x3_1 (⟨t145, (⟨#[]⟩ : ByteArray)⟩ : S76) [.int .i64 t145, .string (⟨#[]⟩ : ByteArray)] (fun k_ => k_ ≠ gb147) (fun _ => False) rfl rfl ?aP (fun _ hk => hk.elim) ?aF ?aO ?aB ?aS ?aL ?_; (case aP => exact k76_mkM _ _ _ (⟨t145, (⟨#[]⟩ : ByteArray)⟩ : S76)); (case aB => exact (by repeat (first | (with_reducible first | exact HB.out | apply below_alloc | apply pw_below_drewN | apply below_drew1 | refine below_set ?_ GE147.out) | exact HB.out))); (case aF => exact (fun k_ hk => Kd.freshB (g := gb147) (o := .cells #[.int .i64 t145, .string (⟨#[]⟩ : ByteArray)] 76 (0, 0)) (by (with_reducible repeat (first | refine blk_drewN ?_ _ | refine blk_drew ?_ | refine blk_alloc ?_ _)); exact BK147.out) k_ hk)); (case aO => exact (by (with_reducible repeat (first | apply Kd.R_alloc | apply Kd.R_drewN | apply Kd.R_drew)); exact Kd.R_mono HO_3.out (fun _ hk => hk.2))); (case aS => exact (below_size (by repeat (first | (with_reducible first | exact HB.out | apply below_alloc | apply pw_below_drewN | apply below_drew1 | refine below_set ?_ GE147.out) | exact HB.out)))); (case aL => have := LMc28.out; omega); intro v163 w34 ho hb hg hat; rw [← Ny162.out] at ho; have n0_ := Aside0.mk (blk_grown (g := gb147) (o := .cells #[.int .i64 t145, .string (⟨#[]⟩ : ByteArray)] 76 (0, 0)) (by (with_reducible repeat (first | refine blk_drewN ?_ _ | refine blk_drew ?_ | refine blk_alloc ?_ _)); exact BK147.out) hg (Kd.R_away HO_3.out (fun _ hk => hk.2))); have n1_ := Aside0.mk (Kd.R_over' (by (with_reducible repeat (first | apply Kd.R_alloc | apply Kd.R_drewN | apply Kd.R_drew)); exact HO150.out) (Kd.R_typed (by (with_reducible repeat (first | apply Kd.R_alloc | apply Kd.R_drewN | apply Kd.R_drew)); exact HO_3.out)) (by decide) hg); have n2_ := Aside0.mk (hb); have n3_ := Aside0.mk (ho); clear BK147; clear HO150; clear HB; clear HO_3; have BK147 := n0_; have HO150 := n1_; have HB := n2_; have HO164 := n3_; clear n0_ n1_ n2_ n3_; clear ho hb hg hat))
                  go_roundg k1
                  case measure => have := HK1.out; omega
                  case rel => exact ⟨(y162), (wrap64 (x12_1 + 1)), (by first | rfl | (simp; done) | (simp [*]; done)), H', ⟨by have := HK1.out; omega⟩, ⟨by (with_reducible repeat (first | apply Kd.R_alloc | apply Kd.R_drewN | apply Kd.R_drew)); exact Kd.R_mono HO164.out (fun _ hk => trivial)⟩, ⟨by repeat (first | (with_reducible first | exact HB.out | apply below_alloc | apply pw_below_drewN | apply below_drew1 | refine below_set ?_ GE147.out) | exact HB.out)⟩⟩
                · rw [if_neg c28] at H
                  exact absurd H (by simp)
          · rw [if_neg c6] at H
            exact absurd H (by simp)
        · rw [if_neg c5] at H
          exact absurd H (by simp)
      · rw [if_neg c4] at H
        have c4b0 : decide (x12_1 < (l0.length : Int)) = false := decide_eq_false c4
        clear c4
        obtain rfl := Option.some.inj H
        go_wp2
        go_ret
        exact ⟨_, by first | rfl | (simp [errW_none, errW_some] <;> rfl) | (simp [*, errW_none, errW_some] <;> rfl), by (with_reducible repeat (first | apply Kd.R_alloc | apply Kd.R_drewN | apply Kd.R_drew)); exact HO_3.out, by repeat (first | (with_reducible first | exact HB.out | apply below_alloc | apply pw_below_drewN | apply below_drew1) | exact HB.out)⟩

-- NOT PRINTED: function 7 (laws_lgEscaped)

end Go.Proofs.YtokjbdofpdncdaaDoor.PlgEscaped
