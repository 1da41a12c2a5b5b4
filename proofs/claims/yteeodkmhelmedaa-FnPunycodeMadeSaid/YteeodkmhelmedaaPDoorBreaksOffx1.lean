-- PRINTED BY print.sh 35421559b90ae4d0a3588c463048766b98c2df88dd9212a6774a882060cdf62d: not written by this session
import Derived.Test.YteeodkmhelmedaaPDoorBreaksOffx0
namespace Go.Proofs.Yteeodkmhelmedaa.PDoorBreaksOff
open Go.RowKit Go.Proofs.YteeodkmhelmedaaW.PrintWords Go.Proofs.YteeodkmhelmedaaW.PrintLast Go.Proofs.YteeodkmhelmedaaW.PrintMore
attribute [local go_sem] max2_int min2_int max_two min_two max_three min_three max_four min_four   -- for this text's walks alone
set_option linter.unusedVariables false
set_option linter.unusedSimpArgs false

/-! ### spec_idIsDigit: function 27 -/
def spec_idIsDigit.f (a0 : Int) : Option (Bool) := if a0 ≥ 48 then (some (decide (a0 ≤ 57))) else (some false)
set_option maxHeartbeats 8000000 in
set_option maxRecDepth 100000 in
theorem spec_idIsDigit.calls (a0 : Int) (r : Bool) (w : World) (h : spec_idIsDigit.f a0 = some r) :
    Calls Try.prog 27 #[.int .u8 a0] w fun e w' => e = .returned (.bool r) ∧ Drawn0 w w' := by
  have H : (if a0 ≥ 48 then (some (decide (a0 ≤ 57))) else (some false)) = some r := h
  clear h
  by_cases c2 : a0 ≥ 48
  · rw [if_pos c2] at H
    have c2b0 : decide (48 ≤ a0) = true := decide_eq_true c2
    clear c2
    obtain rfl := Option.some.inj H
    go_enter Try.func27, Try.ntmps27
    go_wp2
    go_ret
    exact ⟨by first | rfl | (simp; done) | (simp [*]; done), by repeat (first | exact Drawn0.refl _ | apply Drawn0.step)⟩
  · rw [if_neg c2] at H
    have c2b0 : decide (48 ≤ a0) = false := decide_eq_false c2
    clear c2
    obtain rfl := Option.some.inj H
    go_enter Try.func27, Try.ntmps27
    go_wp2
    go_ret
    exact ⟨by first | rfl | (simp; done) | (simp [*]; done), by repeat (first | exact Drawn0.refl _ | apply Drawn0.step)⟩

/-! ### spec_idDigit: function 21 -/
def spec_idDigit.j0 : Nat → Int → Bool → Option (Int)
  | 0, _, _ => none
  | k + 1, x0, x3 => if x3 = true then (some ((x0 - 97) % 256)) else ((spec_idIsDigit.f x0).bind fun t101 => (if t101 = true then (some (((x0 - 48) % 256) + 26)) else (some (-1))))
def spec_idDigit.f (k : Nat) (a0 : Int) : Option (Int) := if a0 ≥ 97 then (spec_idDigit.j0 k a0 (decide (a0 ≤ 122))) else (spec_idDigit.j0 k a0 false)
theorem spec_idDigit.mono_l : ∀ k, (∀ y0 y1, LeO (spec_idDigit.j0 k y0 y1) (spec_idDigit.j0 (k + 1) y0 y1))
  | 0 => fun _ _ r h => by simp [spec_idDigit.j0] at h
  | k + 1 => by
    have ih0 := spec_idDigit.mono_l k
    · intro y0 y1
      unfold spec_idDigit.j0
      repeat' first
      | (with_reducible exact ih0 _ _)
      | (with_reducible exact LeO.refl _)
      | (with_reducible exact LeO.none _)
      | (with_reducible refine LeO.ite ?_ ?_)
      | (with_reducible refine LeO.bind ?_ (fun _ => ?_))
      | exact ih0 _ _
      | exact LeO.none _
      | refine LeO.ite ?_ ?_
      | refine LeO.bind ?_ (fun _ => ?_)
theorem spec_idDigit.mono : ∀ a0 k, LeO (spec_idDigit.f k a0) (spec_idDigit.f (k + 1) a0) := by
  intro a0 k
  have ih0 := spec_idDigit.mono_l k
  unfold spec_idDigit.f
  repeat' first
      | (with_reducible exact ih0 _ _)
      | (with_reducible exact LeO.refl _)
      | (with_reducible exact LeO.none _)
      | (with_reducible refine LeO.ite ?_ ?_)
      | (with_reducible refine LeO.bind ?_ (fun _ => ?_))
      | exact ih0 _ _
      | exact LeO.none _
      | refine LeO.ite ?_ ?_
      | refine LeO.bind ?_ (fun _ => ?_)
set_option maxHeartbeats 8000000 in
set_option maxRecDepth 100000 in
theorem spec_idDigit.calls (k : Nat) (a0 : Int) (r : Int) (w : World) (h : spec_idDigit.f k a0 = some r) :
    Calls Try.prog 21 #[.int .u8 a0] w fun e w' => e = .returned (.int .i64 r) ∧ Drawn0 w w' := by
  have H : (if a0 ≥ 97 then (spec_idDigit.j0 k a0 (decide (a0 ≤ 122))) else (spec_idDigit.j0 k a0 false)) = some r := h
  clear h
  have HC2 := Aside0.mk H
  clear H
  go_enter Try.func21, Try.ntmps21
  go_upto_region 1 with (fail)
  go_cut [3] (fun v3 wc => ∃ (kq : Nat) (x3_1 : Bool), v3 = .bool x3_1 ∧ Aside0 (spec_idDigit.j0 kq a0 x3_1 = some r) ∧ Aside0 (kq ≤ k) ∧ Drawn0 w wc)
  case first =>
    have H := HC2.out
    clear HC2
    by_cases c3 : a0 ≥ 97
    · rw [if_pos c3] at H
      have c3b0 : decide (97 ≤ a0) = true := decide_eq_true c3
      clear c3
      (first | rw [c3b0] | (simp only [i64_w, i32_w]; rw [c3b0]) | skip)
      have H' := Aside0.mk H
      clear H
      go_wp2
      go_meet
      case rel => exact ⟨_, (decide (a0 ≤ 122)), (by first | rfl | (simp; done) | (simp [*]; done)), H', ⟨by first | omega | exact Nat.le_refl _⟩, by repeat (first | exact Drawn0.refl _ | apply Drawn0.step)⟩
    · rw [if_neg c3] at H
      have c3b0 : decide (97 ≤ a0) = false := decide_eq_false c3
      clear c3
      (first | rw [c3b0] | (simp only [i64_w, i32_w]; rw [c3b0]) | skip)
      have H' := Aside0.mk H
      clear H
      go_wp2
      go_meet
      case rel => exact ⟨_, (false), (by first | rfl | (simp; done) | (simp [*]; done)), H', ⟨by first | omega | exact Nat.le_refl _⟩, by repeat (first | exact Drawn0.refl _ | apply Drawn0.step)⟩
  case rest =>
    clear HC2
    try clear c2
    try clear p2
    try clear c3
    try clear c3b0
    obtain ⟨kq, x3_1, rfl, HA, HJ1, ⟨mc1, rfl⟩⟩ := hcut
    cases kq with
    | zero => exact absurd HA.out (by simp [spec_idDigit.j0])
    | succ kj1 =>
      have H := HA.out
      clear HA
      simp only [spec_idDigit.j0] at H
      by_cases c4 : x3_1 = true
      · subst c4
        have H1 : (some ((a0 - 97) % 256)) = some r := by rw [if_pos rfl] at H; exact H
        clear H
        have H := H1
        clear H1
        obtain rfl := Option.some.inj H
        go_wp2
        go_ret
        exact ⟨by first | rfl | (simp; done) | (simp [*]; done), by repeat (first | exact Drawn0.refl _ | apply Drawn0.step)⟩
      · replace c4 := Bool.eq_false_iff.mpr c4
        subst c4
        have H1 : ((spec_idIsDigit.f a0).bind fun t101 => (if t101 = true then (some (((a0 - 48) % 256) + 26)) else (some (-1)))) = some r := by rw [if_neg (show ¬ (false = true) by decide)] at H; exact H
        clear H
        have H := H1
        clear H1
        replace H := Option.bind_eq_some_iff.mp H
        obtain ⟨t101, A50, H⟩ := H
        replace H : (if t101 = true then (some (((a0 - 48) % 256) + 26)) else (some (-1))) = some r := H
        have A5 := Aside0.mk A50
        clear A50
        by_cases c6 : t101 = true
        · subst c6
          have H1 : (some (((a0 - 48) % 256) + 26)) = some r := by rw [if_pos rfl] at H; exact H
          clear H
          have H := H1
          clear H1
          obtain rfl := Option.some.inj H
          go_wp2_with (first | ((with_reducible refine gate_callee (f := 27) rfl ?_); refine goesL_ (some 15) rfl rfl Try.func27 (by kernel_rfl) rfl #[.int .u8 a0] rfl (by (try simp only [List.map_toArray, List.map_cons, List.map_nil]); first | done | rfl | (simp only [List.length_drop, List.length_take]; rfl)) ?_; (with_reducible refine (spec_idIsDigit.calls a0 true _ A5.out).mono ?_); rintro e w' ⟨rfl, ⟨nd, rfl⟩⟩; refine ⟨_, rfl, ?_⟩))
          go_ret
          exact ⟨by first | rfl | (simp; done) | (simp [*]; done), by repeat (first | exact Drawn0.refl _ | apply Drawn0.step)⟩
        · replace c6 := Bool.eq_false_iff.mpr c6
          subst c6
          have H1 : (some (-1)) = some r := by rw [if_neg (show ¬ (false = true) by decide)] at H; exact H
          clear H
          have H := H1
          clear H1
          obtain rfl := Option.some.inj H
          go_wp2_with (first | ((with_reducible refine gate_callee (f := 27) rfl ?_); refine goesL_ (some 15) rfl rfl Try.func27 (by kernel_rfl) rfl #[.int .u8 a0] rfl (by (try simp only [List.map_toArray, List.map_cons, List.map_nil]); first | done | rfl | (simp only [List.length_drop, List.length_take]; rfl)) ?_; (with_reducible refine (spec_idIsDigit.calls a0 false _ A5.out).mono ?_); rintro e w' ⟨rfl, ⟨nd, rfl⟩⟩; refine ⟨_, rfl, ?_⟩))
          go_ret
          exact ⟨by first | rfl | (simp; done) | (simp [*]; done), by repeat (first | exact Drawn0.refl _ | apply Drawn0.step)⟩

/-! ### spec_idThreshold: function 22 -/
def spec_idThreshold.f (a0 : Int) (a1 : Int) : Option (Int) := some (mn (mx (wrap64 ((wrap64 (36 * a0)) - a1)) 1) 26)
set_option maxHeartbeats 8000000 in
set_option maxRecDepth 100000 in
theorem spec_idThreshold.calls (a0 : Int) (a1 : Int) (r : Int) (w : World) (h : spec_idThreshold.f a0 a1 = some r) :
    Calls Try.prog 22 #[.int .i64 a0, .int .i64 a1] w fun e w' => e = .returned (.int .i64 r) ∧ Below w.heap.size w w' := by
  have HB := Aside0.mk (Below.refl w.heap.size w)
  have H : (some (mn (mx (wrap64 ((wrap64 (36 * a0)) - a1)) 1) 26)) = some r := h
  clear h
  obtain ⟨ji3, hji3⟩ : ∃ j_ : Int, (mx (wrap64 ((wrap64 (36 * a0)) - a1)) 1) = j_ := ⟨_, rfl⟩
  replace H : (some (mn (ji3) 26)) = some r := by first | (rw [hji3] at H; exact H) | (simp only [hji3] at H ⊢; exact H)
  (try (have hji3l : 1 ≤ ji3 := by (rw [← hji3]; unfold mx; (repeat' split) <;> omega)))
  (try (have hji3m : 0 ≤ ji3 := by omega))
  have hji3_ : (if (wrap64 ((wrap64 (36 * a0)) - a1)) < 1 then 1 else (wrap64 ((wrap64 (36 * a0)) - a1))) = ji3 := hji3
  obtain ⟨ji4, hji4⟩ : ∃ j_ : Int, (mn (ji3) 26) = j_ := ⟨_, rfl⟩
  replace H : (some ji4) = some r := by first | (rw [hji4] at H; exact H) | (simp only [hji4] at H ⊢; exact H)
  have hji4_ : (if 26 < (ji3) then 26 else (ji3)) = ji4 := hji4
  obtain rfl := Option.some.inj H
  go_enter Try.func22, Try.ntmps22
  go_wp2
  go_ret
  exact ⟨by first | rfl | (simp [errW_none, errW_some] <;> rfl) | (simp only [← hji3, ← hji4]; first | rfl | (simp [errW_none, errW_some] <;> rfl)) | (simp [*, errW_none, errW_some] <;> rfl), by repeat (first | (with_reducible first | exact HB.out | apply below_alloc | apply pw_below_drewN | apply below_drew1) | exact HB.out)⟩

/-! ### spec_idRead: function 14 -/
mutual
def spec_idRead.l0 : Nat → ByteArray → Int → Int → Int → Int → Option (Int × ByteArray × Bool)
  | 0, _, _, _, _, _ => none
  | k + 1, x0, x2, x9, x10, x11 => if x0.toList = ([] : List UInt8) then (some (0, (⟨#[]⟩ : ByteArray), false)) else (if 0 < (x0.size : Int) then ((spec_idDigit.f k (bt x0 0)).bind fun t102 => (if 1 ≤ (x0.size : Int) then (if t102 < 0 then (spec_idRead.j1 k (x0.extract 1 x0.size) x2 x9 x10 x11 t102 true) else (spec_idRead.j1 k (x0.extract 1 x0.size) x2 x9 x10 x11 t102 (decide (x10 > 1099511627776)))) else (none))) else (none))
def spec_idRead.j1 : Nat → ByteArray → Int → Int → Int → Int → Int → Bool → Option (Int × ByteArray × Bool)
  | 0, _, _, _, _, _, _, _ => none
  | k + 1, x0, x2, x9, x10, x11, x12, x29 => if x29 = true then (some (0, (⟨#[]⟩ : ByteArray), false)) else ((spec_idThreshold.f x11 x2).bind fun t103 => (if x12 < t103 then (some (wrap64 (x9 + (wrap64 (x12 * x10))), x0, decide ((wrap64 (x9 + (wrap64 (x12 * x10)))) ≤ 1099511627776))) else (if x10 ≥ 59652323 then (some (0, (⟨#[]⟩ : ByteArray), false)) else (spec_idRead.l0 k x0 x2 (wrap64 (x9 + (wrap64 (x12 * x10)))) (wrap64 (x10 * (wrap64 (36 - t103)))) (wrap64 (x11 + 1))))))
end
def spec_idRead.f (k : Nat) (a0 : ByteArray) (a1 : Int) (a2 : Int) : Option (Int × ByteArray × Bool) := spec_idRead.l0 k a0 a2 a1 1 1
theorem spec_idRead.mono_l : ∀ k, (∀ y0 y1 y2 y3 y4, LeO (spec_idRead.l0 k y0 y1 y2 y3 y4) (spec_idRead.l0 (k + 1) y0 y1 y2 y3 y4)) ∧ (∀ y0 y1 y2 y3 y4 y5 y6, LeO (spec_idRead.j1 k y0 y1 y2 y3 y4 y5 y6) (spec_idRead.j1 (k + 1) y0 y1 y2 y3 y4 y5 y6))
  | 0 => ⟨fun _ _ _ _ _ r h => by simp [spec_idRead.l0] at h, fun _ _ _ _ _ _ _ r h => by simp [spec_idRead.j1] at h⟩
  | k + 1 => by
    obtain ⟨ih0, ih1⟩ := spec_idRead.mono_l k
    refine ⟨?_, ?_⟩
    · intro y0 y1 y2 y3 y4
      unfold spec_idRead.l0
      repeat' first
      | (with_reducible exact ih0 _ _ _ _ _)
      | (with_reducible exact ih1 _ _ _ _ _ _ _)
      | (with_reducible exact spec_idDigit.mono _ _)
      | (with_reducible exact LeO.refl _)
      | (with_reducible exact LeO.none _)
      | (with_reducible refine LeO.ite ?_ ?_)
      | (with_reducible refine LeO.bind ?_ (fun _ => ?_))
      | exact ih0 _ _ _ _ _
      | exact ih1 _ _ _ _ _ _ _
      | exact spec_idDigit.mono _ _
      | exact LeO.none _
      | refine LeO.ite ?_ ?_
      | refine LeO.bind ?_ (fun _ => ?_)
    · intro y0 y1 y2 y3 y4 y5 y6
      unfold spec_idRead.j1
      repeat' first
      | (with_reducible exact ih0 _ _ _ _ _)
      | (with_reducible exact ih1 _ _ _ _ _ _ _)
      | (with_reducible exact spec_idDigit.mono _ _)
      | (with_reducible exact LeO.refl _)
      | (with_reducible exact LeO.none _)
      | (with_reducible refine LeO.ite ?_ ?_)
      | (with_reducible refine LeO.bind ?_ (fun _ => ?_))
      | exact ih0 _ _ _ _ _
      | exact ih1 _ _ _ _ _ _ _
      | exact spec_idDigit.mono _ _
      | exact LeO.none _
      | refine LeO.ite ?_ ?_
      | refine LeO.bind ?_ (fun _ => ?_)
theorem spec_idRead.mono : ∀ a0 a1 a2 k, LeO (spec_idRead.f k a0 a1 a2) (spec_idRead.f (k + 1) a0 a1 a2) := by
  intro a0 a1 a2 k
  obtain ⟨ih0, ih1⟩ := spec_idRead.mono_l k
  unfold spec_idRead.f
  repeat' first
      | (with_reducible exact ih0 _ _ _ _ _)
      | (with_reducible exact ih1 _ _ _ _ _ _ _)
      | (with_reducible exact spec_idDigit.mono _ _)
      | (with_reducible exact LeO.refl _)
      | (with_reducible exact LeO.none _)
      | (with_reducible refine LeO.ite ?_ ?_)
      | (with_reducible refine LeO.bind ?_ (fun _ => ?_))
      | exact ih0 _ _ _ _ _
      | exact ih1 _ _ _ _ _ _ _
      | exact spec_idDigit.mono _ _
      | exact LeO.none _
      | refine LeO.ite ?_ ?_
      | refine LeO.bind ?_ (fun _ => ?_)
set_option maxHeartbeats 8000000 in
set_option maxRecDepth 100000 in
theorem spec_idRead.calls (k : Nat) (a0 : ByteArray) (a1 : Int) (a2 : Int) (r1 : Int) (r2 : ByteArray) (r3 : Bool) (w : World) (h : spec_idRead.f k a0 a1 a2 = some (r1, r2, r3)) :
    Calls Try.prog 14 #[.string a0, .int .i64 a1, .int .i64 a2] w fun e w' => e = .returned (.tuple #[.int .i64 r1, .string r2, .bool r3]) ∧ Below w.heap.size w w' := by
  have HB := Aside0.mk (Below.refl w.heap.size w)
  have H : (spec_idRead.l0 k a0 a2 a1 1 1) = some (r1, r2, r3) := h
  clear h
  have H' := Aside0.mk H
  clear H
  go_enter Try.func14, Try.ntmps14
  go_wp2
  go_loopg [0, 9, 10, 11] k (fun kq v0 v9 v10 v11 w' => ∃ (x0_1 : ByteArray) (x9_1 : Int) (x10_1 : Int) (x11_1 : Int), v0 = .string x0_1 ∧ v9 = .int .i64 x9_1 ∧ v10 = .int .i64 x10_1 ∧ v11 = .int .i64 x11_1 ∧ Aside0 (spec_idRead.l0 kq x0_1 a2 x9_1 x10_1 x11_1 = some (r1, r2, r3)) ∧ Aside0 (kq ≤ k) ∧ Aside0 (Below w.heap.size w w'))
  case atStart => exact ⟨(a0), (a1), (1), (1), (by first | rfl | (simp; done) | (simp [*]; done)), (by first | rfl | (simp; done) | (simp [*]; done)), (by first | rfl | (simp; done) | (simp [*]; done)), (by first | rfl | (simp; done) | (simp [*]; done)), H', ⟨Nat.le_refl _⟩, ⟨by repeat (first | (with_reducible first | exact HB.out | apply below_alloc | apply pw_below_drewN | apply below_drew1) | exact HB.out)⟩⟩
  case round =>
    clear H'
    try clear c1
    try clear p2
    obtain ⟨x0_1, x9_1, x10_1, x11_1, rfl, rfl, rfl, rfl, HA, HK1, HB⟩ := hrel
    cases gk with
    | zero => exact absurd HA.out (by simp [spec_idRead.l0])
    | succ k1 =>
      have H := HA.out
      clear HA
      simp only [spec_idRead.l0] at H
      by_cases c4 : x0_1.toList = ([] : List UInt8)
      · rw [if_pos c4] at H
        have c4b0 : (x0_1.toList == ([] : List UInt8)) = true := beq_iff_eq.mpr c4
        have c4b1 : (x0_1.toList != ([] : List UInt8)) = false := bne_eq_false_iff_eq.mpr c4
        clear c4
        simp only [Option.some.injEq, Prod.mk.injEq] at H
        obtain ⟨rfl, rfl, rfl⟩ := H
        go_wp2
        go_ret3
        exact ⟨by first | rfl | (simp [errW_none, errW_some] <;> rfl) | (simp [*, errW_none, errW_some] <;> rfl), by repeat (first | (with_reducible first | exact HB.out | apply below_alloc | apply pw_below_drewN | apply below_drew1) | exact HB.out)⟩
      · rw [if_neg c4] at H
        have c4b0 : (x0_1.toList == ([] : List UInt8)) = false := beq_eq_false_iff_ne.mpr c4
        have c4b1 : (x0_1.toList != ([] : List UInt8)) = true := bne_iff_ne.mpr c4
        by_cases c5 : 0 < (x0_1.size : Int)
        · rw [if_pos c5] at H
          have c5b0 : decide (0 < (x0_1.size : Int)) = true := decide_eq_true c5
          have c5b1 : decide (0 < x0_1.size) = true := decide_eq_true (by omega)
          clear c5
          replace H := Option.bind_eq_some_iff.mp H
          obtain ⟨t102, A70, H⟩ := H
          replace H : (if 1 ≤ (x0_1.size : Int) then (if t102 < 0 then (spec_idRead.j1 k1 (x0_1.extract 1 x0_1.size) a2 x9_1 x10_1 x11_1 t102 true) else (spec_idRead.j1 k1 (x0_1.extract 1 x0_1.size) a2 x9_1 x10_1 x11_1 t102 (decide (x10_1 > 1099511627776)))) else (none)) = some (r1, r2, r3) := H
          have A7 := Aside0.mk A70
          clear A70
          by_cases c8 : 1 ≤ (x0_1.size : Int)
          · rw [if_pos c8] at H
            have c8b0 := eq_true c8
            have c8b1 : decide (1 ≤ (x0_1.size : Int)) = true := decide_eq_true c8
            clear c8
            have HC9 := Aside0.mk H
            clear H
            have p6 : 0 ≤ (0 : Int) := (by omega)
            have q6 : 0 < x0_1.size := (by have : (0 : Int) < (x0_1.size : Int) := of_decide_eq_true (by first | (with_reducible assumption) | assumption); omega)
            have hx6 : ∀ h : 0 < x0_1.size, ((x0_1[0]'h).toNat : Int) = bt x0_1 0 := bt_at x0_1 0
            clear p6
            have qi6 : (0 < (x0_1.size : Int)) = True := eq_true (of_decide_eq_true (by first | (with_reducible assumption) | assumption))
            replace q6 := eq_true q6
            go_upto_region 7 with (first | ((with_reducible refine gate_callee (f := 21) rfl ?_); refine goesL_ (some 21) rfl rfl Try.func21 (by kernel_rfl) rfl #[.int .u8 (bt x0_1 0)] rfl (by (try simp only [List.map_toArray, List.map_cons, List.map_nil]); first | done | rfl | (simp only [List.length_drop, List.length_take]; rfl)) ?_; (with_reducible refine (spec_idDigit.calls k1 (bt x0_1 0) t102 _ A7.out).mono ?_); rintro e w' ⟨rfl, ⟨nd, rfl⟩⟩; refine ⟨_, rfl, ?_⟩))
            (try simp only [Act.put, List.setIfInBounds_toArray, List.set_cons_zero, List.set_cons_succ])
            go_cut [29] (fun v29 wc => ∃ (kq : Nat) (x29_8 : Bool), v29 = .bool x29_8 ∧ Aside0 (spec_idRead.j1 kq (x0_1.extract 1 x0_1.size) a2 x9_1 x10_1 x11_1 t102 x29_8 = some (r1, r2, r3)) ∧ Aside0 (kq ≤ k1) ∧ Aside0 (Below w.heap.size w wc))
            case first =>
              have H := HC9.out
              clear HC9
              by_cases c10 : t102 < 0
              · rw [if_pos c10] at H
                have c10b0 : decide (t102 < 0) = true := decide_eq_true c10
                clear c10
                (first | rw [c10b0] | (simp only [i64_w, i32_w]; rw [c10b0]) | skip)
                have H' := Aside0.mk H
                clear H
                go_wp2
                go_meet
                case rel => exact ⟨_, (true), (by first | rfl | (simp; done) | (simp [*]; done)), H', ⟨by have := HK1.out; first | omega | exact Nat.le_refl _⟩, ⟨by repeat (first | (with_reducible first | exact HB.out | apply below_alloc | apply pw_below_drewN | apply below_drew1) | exact HB.out)⟩⟩
              · rw [if_neg c10] at H
                have c10b0 : decide (t102 < 0) = false := decide_eq_false c10
                clear c10
                (first | rw [c10b0] | (simp only [i64_w, i32_w]; rw [c10b0]) | skip)
                have H' := Aside0.mk H
                clear H
                go_wp2
                go_meet
                case rel => exact ⟨_, (decide (x10_1 > 1099511627776)), (by first | rfl | (simp; done) | (simp [*]; done)), H', ⟨by have := HK1.out; first | omega | exact Nat.le_refl _⟩, ⟨by repeat (first | (with_reducible first | exact HB.out | apply below_alloc | apply pw_below_drewN | apply below_drew1) | exact HB.out)⟩⟩
            case rest =>
              clear HC9
              try clear c1
              try clear c2
              try clear p2
              try clear c4
              try clear c4b0
              try clear c4b1
              try clear c5
              try clear c5b0
              try clear c5b1
              try clear p6
              try clear q6
              try clear hx6
              try clear qi6
              try clear c8
              try clear c8b0
              try clear c8b1
              try clear c10
              try clear c10b0
              try clear p2
              try clear p6
              try clear q6
              obtain ⟨kq, x29_8, rfl, HA, HJ8, HB⟩ := hcut
              cases kq with
              | zero => exact absurd HA.out (by simp [spec_idRead.j1])
              | succ kj8 =>
                have H := HA.out
                clear HA
                simp only [spec_idRead.j1] at H
                by_cases c11 : x29_8 = true
                · subst c11
                  have H1 : (some (0, (⟨#[]⟩ : ByteArray), false)) = some (r1, r2, r3) := by rw [if_pos rfl] at H; exact H
                  clear H
                  have H := H1
                  clear H1
                  simp only [Option.some.injEq, Prod.mk.injEq] at H
                  obtain ⟨rfl, rfl, rfl⟩ := H
                  go_wp2
                  go_ret3
                  exact ⟨by first | rfl | (simp [errW_none, errW_some] <;> rfl) | (simp [*, errW_none, errW_some] <;> rfl), by repeat (first | (with_reducible first | exact HB.out | apply below_alloc | apply pw_below_drewN | apply below_drew1) | exact HB.out)⟩
                · replace c11 := Bool.eq_false_iff.mpr c11
                  subst c11
                  have H1 : ((spec_idThreshold.f x11_1 a2).bind fun t103 => (if t102 < t103 then (some (wrap64 (x9_1 + (wrap64 (t102 * x10_1))), (x0_1.extract 1 x0_1.size), decide ((wrap64 (x9_1 + (wrap64 (t102 * x10_1)))) ≤ 1099511627776))) else (if x10_1 ≥ 59652323 then (some (0, (⟨#[]⟩ : ByteArray), false)) else (spec_idRead.l0 kj8 (x0_1.extract 1 x0_1.size) a2 (wrap64 (x9_1 + (wrap64 (t102 * x10_1)))) (wrap64 (x10_1 * (wrap64 (36 - t103)))) (wrap64 (x11_1 + 1)))))) = some (r1, r2, r3) := by rw [if_neg (show ¬ (false = true) by decide)] at H; exact H
                  clear H
                  have H := H1
                  clear H1
                  replace H := Option.bind_eq_some_iff.mp H
                  obtain ⟨t103, A120, H⟩ := H
                  replace H : (if t102 < t103 then (some (wrap64 (x9_1 + (wrap64 (t102 * x10_1))), (x0_1.extract 1 x0_1.size), decide ((wrap64 (x9_1 + (wrap64 (t102 * x10_1)))) ≤ 1099511627776))) else (if x10_1 ≥ 59652323 then (some (0, (⟨#[]⟩ : ByteArray), false)) else (spec_idRead.l0 kj8 (x0_1.extract 1 x0_1.size) a2 (wrap64 (x9_1 + (wrap64 (t102 * x10_1)))) (wrap64 (x10_1 * (wrap64 (36 - t103)))) (wrap64 (x11_1 + 1))))) = some (r1, r2, r3) := H
                  have A12 := Aside0.mk A120
                  clear A120
                  by_cases c13 : t102 < t103
                  · rw [if_pos c13] at H
                    have c13b0 : decide (t102 < t103) = true := decide_eq_true c13
                    clear c13
                    simp only [Option.some.injEq, Prod.mk.injEq] at H
                    obtain ⟨rfl, rfl, rfl⟩ := H
                    go_wp2_with (first | ((with_reducible refine gate_callee (f := 22) rfl ?_); refine goesL_ (some 37) rfl rfl Try.func22 (by kernel_rfl) rfl #[.int .i64 x11_1, .int .i64 a2] rfl (by (try simp only [List.map_toArray, List.map_cons, List.map_nil]); first | done | rfl | (simp only [List.length_drop, List.length_take]; rfl)) ?_; (with_reducible refine (spec_idThreshold.calls x11_1 a2 t103 _ A12.out).mono ?_); rintro e w14 ⟨rfl, hb⟩; refine ⟨_, rfl, ?_⟩; have n0_ := Aside0.mk (below_step (by repeat (first | (with_reducible first | exact HB.out | apply below_alloc | apply pw_below_drewN | apply below_drew1) | exact HB.out)) hb); clear HB; have HB := n0_; clear n0_; (try clear hb); (try clear hb2); (try clear hk); (try clear hi)))
                    go_ret3
                    exact ⟨by first | rfl | (simp [errW_none, errW_some] <;> rfl) | (simp [*, errW_none, errW_some] <;> rfl), by repeat (first | (with_reducible first | exact HB.out | apply below_alloc | apply pw_below_drewN | apply below_drew1) | exact HB.out)⟩
                  · rw [if_neg c13] at H
                    have c13b0 : decide (t102 < t103) = false := decide_eq_false c13
                    clear c13
                    by_cases c15 : x10_1 ≥ 59652323
                    · rw [if_pos c15] at H
                      have c15b0 : decide (59652323 ≤ x10_1) = true := decide_eq_true c15
                      clear c15
                      simp only [Option.some.injEq, Prod.mk.injEq] at H
                      obtain ⟨rfl, rfl, rfl⟩ := H
                      go_wp2_with (first | ((with_reducible refine gate_callee (f := 22) rfl ?_); refine goesL_ (some 37) rfl rfl Try.func22 (by kernel_rfl) rfl #[.int .i64 x11_1, .int .i64 a2] rfl (by (try simp only [List.map_toArray, List.map_cons, List.map_nil]); first | done | rfl | (simp only [List.length_drop, List.length_take]; rfl)) ?_; (with_reducible refine (spec_idThreshold.calls x11_1 a2 t103 _ A12.out).mono ?_); rintro e w16 ⟨rfl, hb⟩; refine ⟨_, rfl, ?_⟩; have n0_ := Aside0.mk (below_step (by repeat (first | (with_reducible first | exact HB.out | apply below_alloc | apply pw_below_drewN | apply below_drew1) | exact HB.out)) hb); clear HB; have HB := n0_; clear n0_; (try clear hb); (try clear hb2); (try clear hk); (try clear hi)))
                      go_ret3
                      exact ⟨by first | rfl | (simp [errW_none, errW_some] <;> rfl) | (simp [*, errW_none, errW_some] <;> rfl), by repeat (first | (with_reducible first | exact HB.out | apply below_alloc | apply pw_below_drewN | apply below_drew1) | exact HB.out)⟩
                    · rw [if_neg c15] at H
                      have c15b0 : decide (59652323 ≤ x10_1) = false := decide_eq_false c15
                      clear c15
                      have H' := Aside0.mk H
                      clear H
                      go_wp2_with (first | ((with_reducible refine gate_callee (f := 22) rfl ?_); refine goesL_ (some 37) rfl rfl Try.func22 (by kernel_rfl) rfl #[.int .i64 x11_1, .int .i64 a2] rfl (by (try simp only [List.map_toArray, List.map_cons, List.map_nil]); first | done | rfl | (simp only [List.length_drop, List.length_take]; rfl)) ?_; (with_reducible refine (spec_idThreshold.calls x11_1 a2 t103 _ A12.out).mono ?_); rintro e w17 ⟨rfl, hb⟩; refine ⟨_, rfl, ?_⟩; have n0_ := Aside0.mk (below_step (by repeat (first | (with_reducible first | exact HB.out | apply below_alloc | apply pw_below_drewN | apply below_drew1) | exact HB.out)) hb); clear HB; have HB := n0_; clear n0_; (try clear hb); (try clear hb2); (try clear hk); (try clear hi)))
                      go_roundg kj8
                      case measure => have := HK1.out; have := HJ8.out; omega
                      case rel => exact ⟨((x0_1.extract 1 x0_1.size)), (wrap64 (x9_1 + (wrap64 (t102 * x10_1)))), (wrap64 (x10_1 * (wrap64 (36 - t103)))), (wrap64 (x11_1 + 1)), (by first | rfl | (simp; done) | (simp [*]; done)), (by first | rfl | (simp; done) | (simp [*]; done)), (by first | rfl | (simp; done) | (simp [*]; done)), (by first | rfl | (simp; done) | (simp [*]; done)), H', ⟨by have := HK1.out; have := HJ8.out; omega⟩, ⟨by repeat (first | (with_reducible first | exact HB.out | apply below_alloc | apply pw_below_drewN | apply below_drew1) | exact HB.out)⟩⟩
          · rw [if_neg c8] at H
            exact absurd H (by simp)
        · rw [if_neg c5] at H
          exact absurd H (by simp)

/-! ### spec_idDigitsOnly: function 15 -/
def spec_idDigitsOnly.l0 : Nat → ByteArray → Int → Int → Option (Bool)
  | 0, _, _, _ => none
  | k + 1, x0, x5, x6 => if x6 < x5 then (if 0 ≤ x6 then (if x6 < (x0.size : Int) then ((spec_idDigit.f k (bt x0 x6)).bind fun t104 => (if t104 < 0 then (some false) else (spec_idDigitsOnly.l0 k x0 x5 (wrap64 (x6 + 1))))) else (none)) else (none)) else (some true)
def spec_idDigitsOnly.f (k : Nat) (a0 : ByteArray) : Option (Bool) := spec_idDigitsOnly.l0 k a0 (a0.size : Int) 0
theorem spec_idDigitsOnly.mono_l : ∀ k, (∀ y0 y1 y2, LeO (spec_idDigitsOnly.l0 k y0 y1 y2) (spec_idDigitsOnly.l0 (k + 1) y0 y1 y2))
  | 0 => fun _ _ _ r h => by simp [spec_idDigitsOnly.l0] at h
  | k + 1 => by
    have ih0 := spec_idDigitsOnly.mono_l k
    · intro y0 y1 y2
      unfold spec_idDigitsOnly.l0
      repeat' first
      | (with_reducible exact ih0 _ _ _)
      | (with_reducible exact spec_idDigit.mono _ _)
      | (with_reducible exact LeO.refl _)
      | (with_reducible exact LeO.none _)
      | (with_reducible refine LeO.ite ?_ ?_)
      | (with_reducible refine LeO.bind ?_ (fun _ => ?_))
      | exact ih0 _ _ _
      | exact spec_idDigit.mono _ _
      | exact LeO.none _
      | refine LeO.ite ?_ ?_
      | refine LeO.bind ?_ (fun _ => ?_)
theorem spec_idDigitsOnly.mono : ∀ a0 k, LeO (spec_idDigitsOnly.f k a0) (spec_idDigitsOnly.f (k + 1) a0) := by
  intro a0 k
  have ih0 := spec_idDigitsOnly.mono_l k
  unfold spec_idDigitsOnly.f
  repeat' first
      | (with_reducible exact ih0 _ _ _)
      | (with_reducible exact spec_idDigit.mono _ _)
      | (with_reducible exact LeO.refl _)
      | (with_reducible exact LeO.none _)
      | (with_reducible refine LeO.ite ?_ ?_)
      | (with_reducible refine LeO.bind ?_ (fun _ => ?_))
      | exact ih0 _ _ _
      | exact spec_idDigit.mono _ _
      | exact LeO.none _
      | refine LeO.ite ?_ ?_
      | refine LeO.bind ?_ (fun _ => ?_)
set_option maxHeartbeats 8000000 in
set_option maxRecDepth 100000 in
theorem spec_idDigitsOnly.calls (k : Nat) (a0 : ByteArray) (r : Bool) (w : World) (h : spec_idDigitsOnly.f k a0 = some r) :
    Calls Try.prog 15 #[.string a0] w fun e w' => e = .returned (.bool r) ∧ Drawn0 w w' := by
  have H : (spec_idDigitsOnly.l0 k a0 (a0.size : Int) 0) = some r := h
  clear h
  have H' := Aside0.mk H
  clear H
  go_enter Try.func15, Try.ntmps15
  go_wp2
  go_loopg [6] k (fun kq v6 w' => ∃ (x6_1 : Int), v6 = .int .i64 x6_1 ∧ Aside0 (spec_idDigitsOnly.l0 kq a0 (a0.size : Int) x6_1 = some r) ∧ Aside0 (kq ≤ k) ∧ Drawn0 w w')
  case atStart => exact ⟨(0), (by first | rfl | (simp; done) | (simp [*]; done)), H', ⟨Nat.le_refl _⟩, by repeat (first | exact Drawn0.refl _ | apply Drawn0.step)⟩
  case round =>
    clear H'
    try clear c1
    obtain ⟨x6_1, rfl, HA, HK1, ⟨m1, rfl⟩⟩ := hrel
    cases gk with
    | zero => exact absurd HA.out (by simp [spec_idDigitsOnly.l0])
    | succ k1 =>
      have H := HA.out
      clear HA
      simp only [spec_idDigitsOnly.l0] at H
      by_cases c2 : x6_1 < (a0.size : Int)
      · rw [if_pos c2] at H
        have c2b0 : decide (x6_1 < (a0.size : Int)) = true := decide_eq_true c2
        clear c2
        by_cases c3 : 0 ≤ x6_1
        · rw [if_pos c3] at H
          have c3b0 : decide (0 ≤ x6_1) = true := decide_eq_true c3
          clear c3
          by_cases c4 : x6_1 < (a0.size : Int)
          · rw [if_pos c4] at H
            have c4b0 : decide (x6_1 < (a0.size : Int)) = true := decide_eq_true c4
            clear c4
            replace H := Option.bind_eq_some_iff.mp H
            obtain ⟨t104, A60, H⟩ := H
            replace H : (if t104 < 0 then (some false) else (spec_idDigitsOnly.l0 k1 a0 (a0.size : Int) (wrap64 (x6_1 + 1)))) = some r := H
            have A6 := Aside0.mk A60
            clear A60
            by_cases c7 : t104 < 0
            · rw [if_pos c7] at H
              have c7b0 : decide (t104 < 0) = true := decide_eq_true c7
              clear c7
              obtain rfl := Option.some.inj H
              have p5 : 0 ≤ (x6_1 : Int) := of_decide_eq_true (by first | (with_reducible assumption) | assumption)
              have q5 : x6_1 < (a0.size : Int) := of_decide_eq_true (by first | (with_reducible assumption) | assumption)
              have hx5 := bt_at a0 x6_1
              replace p5 := eq_true p5
              replace q5 := eq_true q5
              go_wp2_with (first | ((with_reducible refine gate_callee (f := 21) rfl ?_); refine goesL_ (some 12) rfl rfl Try.func21 (by kernel_rfl) rfl #[.int .u8 (bt a0 x6_1)] rfl (by (try simp only [List.map_toArray, List.map_cons, List.map_nil]); first | done | rfl | (simp only [List.length_drop, List.length_take]; rfl)) ?_; (with_reducible refine (spec_idDigit.calls k1 (bt a0 x6_1) t104 _ A6.out).mono ?_); rintro e w' ⟨rfl, ⟨nd, rfl⟩⟩; refine ⟨_, rfl, ?_⟩))
              go_ret
              exact ⟨by first | rfl | (simp; done) | (simp [*]; done), by repeat (first | exact Drawn0.refl _ | apply Drawn0.step)⟩
            · rw [if_neg c7] at H
              have c7b0 : decide (t104 < 0) = false := decide_eq_false c7
              clear c7
              have H' := Aside0.mk H
              clear H
              have p5 : 0 ≤ (x6_1 : Int) := of_decide_eq_true (by first | (with_reducible assumption) | assumption)
              have q5 : x6_1 < (a0.size : Int) := of_decide_eq_true (by first | (with_reducible assumption) | assumption)
              have hx5 := bt_at a0 x6_1
              replace p5 := eq_true p5
              replace q5 := eq_true q5
              go_wp2_with (first | ((with_reducible refine gate_callee (f := 21) rfl ?_); refine goesL_ (some 12) rfl rfl Try.func21 (by kernel_rfl) rfl #[.int .u8 (bt a0 x6_1)] rfl (by (try simp only [List.map_toArray, List.map_cons, List.map_nil]); first | done | rfl | (simp only [List.length_drop, List.length_take]; rfl)) ?_; (with_reducible refine (spec_idDigit.calls k1 (bt a0 x6_1) t104 _ A6.out).mono ?_); rintro e w' ⟨rfl, ⟨nd, rfl⟩⟩; refine ⟨_, rfl, ?_⟩))
              go_roundg k1
              case measure => have := HK1.out; omega
              case rel => exact ⟨(wrap64 (x6_1 + 1)), (by first | rfl | (simp; done) | (simp [*]; done)), H', ⟨by have := HK1.out; omega⟩, by repeat (first | exact Drawn0.refl _ | apply Drawn0.step)⟩
          · rw [if_neg c4] at H
            exact absurd H (by simp)
        · rw [if_neg c3] at H
          exact absurd H (by simp)
      · rw [if_neg c2] at H
        have c2b0 : decide (x6_1 < (a0.size : Int)) = false := decide_eq_false c2
        clear c2
        obtain rfl := Option.some.inj H
        go_wp2
        go_ret
        exact ⟨by first | rfl | (simp; done) | (simp [*]; done), by repeat (first | exact Drawn0.refl _ | apply Drawn0.step)⟩

/-! ### spec_idAdapted: function 16 -/
mutual
def spec_idAdapted.j0 : Nat → Int → Int → Option (Int)
  | 0, _, _ => none
  | k + 1, x0, x1 => if x1 = 0 then (none) else (spec_idAdapted.l0 k (wrap64 (x0 + (wrap64 (Int.tdiv x0 x1)))) 0)
def spec_idAdapted.l0 : Nat → Int → Int → Option (Int)
  | 0, _, _ => none
  | k + 1, x0, x7 => if x0 > 455 then (spec_idAdapted.l0 k (wrap64 (Int.tdiv x0 35)) (wrap64 (x7 + 36))) else (if (wrap64 (x0 + 38)) = 0 then (none) else (some (wrap64 (x7 + (wrap64 (Int.tdiv (wrap64 (36 * x0)) (wrap64 (x0 + 38))))))))
end
def spec_idAdapted.f (k : Nat) (a0 : Int) (a1 : Int) (a2 : Bool) : Option (Int) := if a2 = true then (spec_idAdapted.j0 k (wrap64 (Int.tdiv a0 700)) a1) else (spec_idAdapted.j0 k (wrap64 (Int.tdiv a0 2)) a1)
theorem spec_idAdapted.mono_l : ∀ k, (∀ y0 y1, LeO (spec_idAdapted.j0 k y0 y1) (spec_idAdapted.j0 (k + 1) y0 y1)) ∧ (∀ y0 y1, LeO (spec_idAdapted.l0 k y0 y1) (spec_idAdapted.l0 (k + 1) y0 y1))
  | 0 => ⟨fun _ _ r h => by simp [spec_idAdapted.j0] at h, fun _ _ r h => by simp [spec_idAdapted.l0] at h⟩
  | k + 1 => by
    obtain ⟨ih0, ih1⟩ := spec_idAdapted.mono_l k
    refine ⟨?_, ?_⟩
    · intro y0 y1
      unfold spec_idAdapted.j0
      repeat' first
      | (with_reducible exact ih0 _ _)
      | (with_reducible exact ih1 _ _)
      | (with_reducible exact LeO.refl _)
      | (with_reducible exact LeO.none _)
      | (with_reducible refine LeO.ite ?_ ?_)
      | (with_reducible refine LeO.bind ?_ (fun _ => ?_))
      | exact ih0 _ _
      | exact ih1 _ _
      | exact LeO.none _
      | refine LeO.ite ?_ ?_
      | refine LeO.bind ?_ (fun _ => ?_)
    · intro y0 y1
      unfold spec_idAdapted.l0
      repeat' first
      | (with_reducible exact ih0 _ _)
      | (with_reducible exact ih1 _ _)
      | (with_reducible exact LeO.refl _)
      | (with_reducible exact LeO.none _)
      | (with_reducible refine LeO.ite ?_ ?_)
      | (with_reducible refine LeO.bind ?_ (fun _ => ?_))
      | exact ih0 _ _
      | exact ih1 _ _
      | exact LeO.none _
      | refine LeO.ite ?_ ?_
      | refine LeO.bind ?_ (fun _ => ?_)
theorem spec_idAdapted.mono : ∀ a0 a1 a2 k, LeO (spec_idAdapted.f k a0 a1 a2) (spec_idAdapted.f (k + 1) a0 a1 a2) := by
  intro a0 a1 a2 k
  obtain ⟨ih0, ih1⟩ := spec_idAdapted.mono_l k
  unfold spec_idAdapted.f
  repeat' first
      | (with_reducible exact ih0 _ _)
      | (with_reducible exact ih1 _ _)
      | (with_reducible exact LeO.refl _)
      | (with_reducible exact LeO.none _)
      | (with_reducible refine LeO.ite ?_ ?_)
      | (with_reducible refine LeO.bind ?_ (fun _ => ?_))
      | exact ih0 _ _
      | exact ih1 _ _
      | exact LeO.none _
      | refine LeO.ite ?_ ?_
      | refine LeO.bind ?_ (fun _ => ?_)
set_option maxHeartbeats 8000000 in
set_option maxRecDepth 100000 in
theorem spec_idAdapted.calls (k : Nat) (a0 : Int) (a1 : Int) (a2 : Bool) (r : Int) (w : World) (h : spec_idAdapted.f k a0 a1 a2 = some r) :
    Calls Try.prog 16 #[.int .i64 a0, .int .i64 a1, .bool a2] w fun e w' => e = .returned (.int .i64 r) ∧ Drawn0 w w' := by
  have H : (if a2 = true then (spec_idAdapted.j0 k (wrap64 (Int.tdiv a0 700)) a1) else (spec_idAdapted.j0 k (wrap64 (Int.tdiv a0 2)) a1)) = some r := h
  clear h
  have HC4 := Aside0.mk H
  clear H
  go_enter Try.func16, Try.ntmps16
  go_upto_if 8 with (fail)
  go_cut [0] (fun v0 wc => ∃ (kq : Nat) (x0_3 : Int), v0 = .int .i64 x0_3 ∧ Aside0 (spec_idAdapted.j0 kq x0_3 a1 = some r) ∧ Aside0 (kq ≤ k) ∧ Drawn0 w wc)
  case first =>
    have H := HC4.out
    clear HC4
    by_cases c5 : a2 = true
    · subst c5
      have H1 : (spec_idAdapted.j0 k (wrap64 (Int.tdiv a0 700)) a1) = some r := by rw [if_pos rfl] at H; exact H
      clear H
      have H := H1
      clear H1
      have H' := Aside0.mk H
      clear H
      go_wp2
      go_meet
      case rel => exact ⟨_, (wrap64 (Int.tdiv a0 700)), (by first | rfl | (simp; done) | (simp [*]; done)), H', ⟨by first | omega | exact Nat.le_refl _⟩, by repeat (first | exact Drawn0.refl _ | apply Drawn0.step)⟩
    · replace c5 := Bool.eq_false_iff.mpr c5
      subst c5
      have H1 : (spec_idAdapted.j0 k (wrap64 (Int.tdiv a0 2)) a1) = some r := by rw [if_neg (show ¬ (false = true) by decide)] at H; exact H
      clear H
      have H := H1
      clear H1
      have H' := Aside0.mk H
      clear H
      go_wp2
      go_meet
      case rel => exact ⟨_, (wrap64 (Int.tdiv a0 2)), (by first | rfl | (simp; done) | (simp [*]; done)), H', ⟨by first | omega | exact Nat.le_refl _⟩, by repeat (first | exact Drawn0.refl _ | apply Drawn0.step)⟩
  case rest =>
    clear HC4
    try clear c1
    try clear p2
    try clear c5
    obtain ⟨kq, x0_3, rfl, HA, HJ3, ⟨mc3, rfl⟩⟩ := hcut
    cases kq with
    | zero => exact absurd HA.out (by simp [spec_idAdapted.j0])
    | succ kj3 =>
      have H := HA.out
      clear HA
      simp only [spec_idAdapted.j0] at H
      by_cases c6 : a1 = 0
      · rw [if_pos c6] at H
        exact absurd H (by simp)
      · rw [if_neg c6] at H
        have c6b0 : (a1 == 0) = false := beq_eq_false_iff_ne.mpr c6
        have c6b1 : (a1 != 0) = true := bne_iff_ne.mpr c6
        have H' := Aside0.mk H
        clear H
        go_wp2
        go_loopg [0, 7] kj3 (fun kq v0 v7 w' => ∃ (x0_2 : Int) (x7_2 : Int), v0 = .int .i64 x0_2 ∧ v7 = .int .i64 x7_2 ∧ Aside0 (spec_idAdapted.l0 kq x0_2 x7_2 = some r) ∧ Aside0 (kq ≤ kj3) ∧ Drawn0 w w')
        case atStart => exact ⟨(wrap64 (x0_3 + (wrap64 (Int.tdiv x0_3 a1)))), (0), (by first | rfl | (simp; done) | (simp [*]; done)), (by first | rfl | (simp; done) | (simp [*]; done)), H', ⟨Nat.le_refl _⟩, by repeat (first | exact Drawn0.refl _ | apply Drawn0.step)⟩
        case round =>
          clear H'
          try clear c1
          try clear p2
          try clear c3
          try clear c5
          try clear c6
          try clear c6b0
          try clear c6b1
          try clear p6
          try clear p2
          obtain ⟨x0_2, x7_2, rfl, rfl, HA, HK2, ⟨m2, rfl⟩⟩ := hrel
          cases gk with
          | zero => exact absurd HA.out (by simp [spec_idAdapted.l0])
          | succ k2 =>
            have H := HA.out
            clear HA
            simp only [spec_idAdapted.l0] at H
            by_cases c7 : x0_2 > 455
            · rw [if_pos c7] at H
              have c7b0 : decide (455 < x0_2) = true := decide_eq_true c7
              clear c7
              have H' := Aside0.mk H
              clear H
              go_wp2
              go_roundg k2
              case measure => have := HJ3.out; have := HK2.out; omega
              case rel => exact ⟨(wrap64 (Int.tdiv x0_2 35)), (wrap64 (x7_2 + 36)), (by first | rfl | (simp; done) | (simp [*]; done)), (by first | rfl | (simp; done) | (simp [*]; done)), H', ⟨by have := HJ3.out; have := HK2.out; omega⟩, by repeat (first | exact Drawn0.refl _ | apply Drawn0.step)⟩
            · rw [if_neg c7] at H
              have c7b0 : decide (455 < x0_2) = false := decide_eq_false c7
              clear c7
              by_cases c8 : (wrap64 (x0_2 + 38)) = 0
              · rw [if_pos c8] at H
                exact absurd H (by simp)
              · rw [if_neg c8] at H
                have c8b0 : ((wrap64 (x0_2 + 38)) == 0) = false := beq_eq_false_iff_ne.mpr c8
                have c8b1 : ((wrap64 (x0_2 + 38)) != 0) = true := bne_iff_ne.mpr c8
                obtain rfl := Option.some.inj H
                go_wp2
                go_ret
                exact ⟨by first | rfl | (simp; done) | (simp [*]; done), by repeat (first | exact Drawn0.refl _ | apply Drawn0.step)⟩

/-! ### spec_DoorBreaksOff: function 8 -/
def spec_DoorBreaksOff.l0 : Nat → ByteArray → Int → Int → Int → Option (Bool)
  | 0, _, _, _, _ => none
  | k + 1, x1, x5, x6, x7 => if x1.toList = ([] : List UInt8) then (some false) else ((spec_idRead.f k x1 x6 x7).bind fun bt105 => (if bt105.2.2 = true then ((spec_idAdapted.f k (wrap64 (bt105.1 - x6)) x5 (x6 == 0)).bind fun t108 => (if x5 = 0 then (none) else (spec_DoorBreaksOff.l0 k bt105.2.1 (wrap64 (x5 + 1)) (wrap64 ((Int.tmod bt105.1 x5) + 1)) t108))) else ((spec_idDigitsOnly.f k x1).bind fun t109 => (if t109 = true then (some (decide ((x1.size : Int) < 8))) else (some false)))))
def spec_DoorBreaksOff.f (k : Nat) (a0 : ByteArray) (a1 : ByteArray) : Option (Bool) := spec_DoorBreaksOff.l0 k a1 (wrap64 ((a0.size : Int) + 1)) 0 72
theorem spec_DoorBreaksOff.mono_l : ∀ k, (∀ y0 y1 y2 y3, LeO (spec_DoorBreaksOff.l0 k y0 y1 y2 y3) (spec_DoorBreaksOff.l0 (k + 1) y0 y1 y2 y3))
  | 0 => fun _ _ _ _ r h => by simp [spec_DoorBreaksOff.l0] at h
  | k + 1 => by
    have ih0 := spec_DoorBreaksOff.mono_l k
    · intro y0 y1 y2 y3
      unfold spec_DoorBreaksOff.l0
      repeat' first
      | (with_reducible exact ih0 _ _ _ _)
      | (with_reducible exact spec_idAdapted.mono _ _ _ _)
      | (with_reducible exact spec_idDigitsOnly.mono _ _)
      | (with_reducible exact spec_idRead.mono _ _ _ _)
      | (with_reducible exact LeO.refl _)
      | (with_reducible exact LeO.none _)
      | (with_reducible refine LeO.ite ?_ ?_)
      | (with_reducible refine LeO.bind ?_ (fun _ => ?_))
      | exact ih0 _ _ _ _
      | exact spec_idAdapted.mono _ _ _ _
      | exact spec_idDigitsOnly.mono _ _
      | exact spec_idRead.mono _ _ _ _
      | exact LeO.none _
      | refine LeO.ite ?_ ?_
      | refine LeO.bind ?_ (fun _ => ?_)
theorem spec_DoorBreaksOff.mono : ∀ a0 a1 k, LeO (spec_DoorBreaksOff.f k a0 a1) (spec_DoorBreaksOff.f (k + 1) a0 a1) := by
  intro a0 a1 k
  have ih0 := spec_DoorBreaksOff.mono_l k
  unfold spec_DoorBreaksOff.f
  repeat' first
      | (with_reducible exact ih0 _ _ _ _)
      | (with_reducible exact spec_idAdapted.mono _ _ _ _)
      | (with_reducible exact spec_idDigitsOnly.mono _ _)
      | (with_reducible exact spec_idRead.mono _ _ _ _)
      | (with_reducible exact LeO.refl _)
      | (with_reducible exact LeO.none _)
      | (with_reducible refine LeO.ite ?_ ?_)
      | (with_reducible refine LeO.bind ?_ (fun _ => ?_))
      | exact ih0 _ _ _ _
      | exact spec_idAdapted.mono _ _ _ _
      | exact spec_idDigitsOnly.mono _ _
      | exact spec_idRead.mono _ _ _ _
      | exact LeO.none _
      | refine LeO.ite ?_ ?_
      | refine LeO.bind ?_ (fun _ => ?_)
set_option maxHeartbeats 8000000 in
set_option maxRecDepth 100000 in
theorem spec_DoorBreaksOff.calls (k : Nat) (a0 : ByteArray) (a1 : ByteArray) (r : Bool) (w : World) (h : spec_DoorBreaksOff.f k a0 a1 = some r) :
    Calls Try.prog 8 #[.string a0, .string a1] w fun e w' => e = .returned (.bool r) ∧ Below w.heap.size w w' := by
  have HB := Aside0.mk (Below.refl w.heap.size w)
  have H : (spec_DoorBreaksOff.l0 k a1 (wrap64 ((a0.size : Int) + 1)) 0 72) = some r := h
  clear h
  have H' := Aside0.mk H
  clear H
  go_enter Try.func8, Try.ntmps8
  go_wp2
  go_loopg [1, 5, 6, 7] k (fun kq v1 v5 v6 v7 w' => ∃ (x1_1 : ByteArray) (x5_1 : Int) (x6_1 : Int) (x7_1 : Int), v1 = .string x1_1 ∧ v5 = .int .i64 x5_1 ∧ v6 = .int .i64 x6_1 ∧ v7 = .int .i64 x7_1 ∧ Aside0 (spec_DoorBreaksOff.l0 kq x1_1 x5_1 x6_1 x7_1 = some r) ∧ Aside0 (kq ≤ k) ∧ Aside0 (Below w.heap.size w w'))
  case atStart => exact ⟨(a1), (wrap64 ((a0.size : Int) + 1)), (0), (72), (by first | rfl | (simp; done) | (simp [*]; done)), (by first | rfl | (simp; done) | (simp [*]; done)), (by first | rfl | (simp; done) | (simp [*]; done)), (by first | rfl | (simp; done) | (simp [*]; done)), H', ⟨Nat.le_refl _⟩, ⟨by repeat (first | (with_reducible first | exact HB.out | apply below_alloc | apply pw_below_drewN | apply below_drew1) | exact HB.out)⟩⟩
  case round =>
    clear H'
    try clear p2
    obtain ⟨x1_1, x5_1, x6_1, x7_1, rfl, rfl, rfl, rfl, HA, HK1, HB⟩ := hrel
    cases gk with
    | zero => exact absurd HA.out (by simp [spec_DoorBreaksOff.l0])
    | succ k1 =>
      have H := HA.out
      clear HA
      simp only [spec_DoorBreaksOff.l0] at H
      by_cases c3 : x1_1.toList = ([] : List UInt8)
      · rw [if_pos c3] at H
        have c3b0 : (x1_1.toList == ([] : List UInt8)) = true := beq_iff_eq.mpr c3
        have c3b1 : (x1_1.toList != ([] : List UInt8)) = false := bne_eq_false_iff_eq.mpr c3
        clear c3
        obtain rfl := Option.some.inj H
        go_wp2
        go_ret
        exact ⟨by first | rfl | (simp [errW_none, errW_some] <;> rfl) | (simp [*, errW_none, errW_some] <;> rfl), by repeat (first | (with_reducible first | exact HB.out | apply below_alloc | apply pw_below_drewN | apply below_drew1) | exact HB.out)⟩
      · rw [if_neg c3] at H
        have c3b0 : (x1_1.toList == ([] : List UInt8)) = false := beq_eq_false_iff_ne.mpr c3
        have c3b1 : (x1_1.toList != ([] : List UInt8)) = true := bne_iff_ne.mpr c3
        replace H := Option.bind_eq_some_iff.mp H
        obtain ⟨⟨t105, t106, t107⟩, A40, H⟩ := H
        replace H : (if t107 = true then ((spec_idAdapted.f k1 (wrap64 (t105 - x6_1)) x5_1 (x6_1 == 0)).bind fun t108 => (if x5_1 = 0 then (none) else (spec_DoorBreaksOff.l0 k1 t106 (wrap64 (x5_1 + 1)) (wrap64 ((Int.tmod t105 x5_1) + 1)) t108))) else ((spec_idDigitsOnly.f k1 x1_1).bind fun t109 => (if t109 = true then (some (decide ((x1_1.size : Int) < 8))) else (some false)))) = some r := H
        have A4 := Aside0.mk A40
        clear A40
        by_cases c5 : t107 = true
        · subst c5
          have H1 : ((spec_idAdapted.f k1 (wrap64 (t105 - x6_1)) x5_1 (x6_1 == 0)).bind fun t108 => (if x5_1 = 0 then (none) else (spec_DoorBreaksOff.l0 k1 t106 (wrap64 (x5_1 + 1)) (wrap64 ((Int.tmod t105 x5_1) + 1)) t108))) = some r := by rw [if_pos rfl] at H; exact H
          clear H
          have H := H1
          clear H1
          replace H := Option.bind_eq_some_iff.mp H
          obtain ⟨t108, A60, H⟩ := H
          replace H : (if x5_1 = 0 then (none) else (spec_DoorBreaksOff.l0 k1 t106 (wrap64 (x5_1 + 1)) (wrap64 ((Int.tmod t105 x5_1) + 1)) t108)) = some r := H
          have A6 := Aside0.mk A60
          clear A60
          by_cases c7 : x5_1 = 0
          · rw [if_pos c7] at H
            exact absurd H (by simp)
          · rw [if_neg c7] at H
            have c7b0 : (x5_1 == 0) = false := beq_eq_false_iff_ne.mpr c7
            have c7b1 : (x5_1 != 0) = true := bne_iff_ne.mpr c7
            have H' := Aside0.mk H
            clear H
            go_wp2_with (first | ((with_reducible refine gate_callee (f := 14) rfl ?_); refine goesL_ (some 20) rfl rfl Try.func14 (by kernel_rfl) rfl #[.string x1_1, .int .i64 x6_1, .int .i64 x7_1] rfl (by (try simp only [List.map_toArray, List.map_cons, List.map_nil]); first | done | rfl | (simp only [List.length_drop, List.length_take]; rfl)) ?_; (with_reducible refine (spec_idRead.calls k1 x1_1 x6_1 x7_1 t105 t106 true _ A4.out).mono ?_); rintro e w8 ⟨rfl, hb⟩; refine ⟨_, rfl, ?_⟩; have n0_ := Aside0.mk (below_step (by repeat (first | (with_reducible first | exact HB.out | apply below_alloc | apply pw_below_drewN | apply below_drew1) | exact HB.out)) hb); clear HB; have HB := n0_; clear n0_; (try clear hb); (try clear hb2); (try clear hk); (try clear hi)) | ((with_reducible refine gate_callee (f := 16) rfl ?_); refine goesL_ (some 39) rfl rfl Try.func16 (by kernel_rfl) rfl #[.int .i64 (wrap64 (t105 - x6_1)), .int .i64 x5_1, .bool (x6_1 == 0)] rfl (by (try simp only [List.map_toArray, List.map_cons, List.map_nil]); first | done | rfl | (simp only [List.length_drop, List.length_take]; rfl)) ?_; (with_reducible refine (spec_idAdapted.calls k1 (wrap64 (t105 - x6_1)) x5_1 (x6_1 == 0) t108 _ A6.out).mono ?_); rintro e w' ⟨rfl, ⟨nd, rfl⟩⟩; refine ⟨_, rfl, ?_⟩))
            go_roundg k1
            case measure => have := HK1.out; omega
            case rel => exact ⟨(t106), (wrap64 (x5_1 + 1)), (wrap64 ((Int.tmod t105 x5_1) + 1)), (t108), (by first | rfl | (simp; done) | (simp [*]; done)), (by first | rfl | (simp; done) | (simp [*]; done)), (by first | rfl | (simp; done) | (simp [*]; done)), (by first | rfl | (simp; done) | (simp [*]; done)), H', ⟨by have := HK1.out; omega⟩, ⟨by repeat (first | (with_reducible first | exact HB.out | apply below_alloc | apply pw_below_drewN | apply below_drew1) | exact HB.out)⟩⟩
        · replace c5 := Bool.eq_false_iff.mpr c5
          subst c5
          have H1 : ((spec_idDigitsOnly.f k1 x1_1).bind fun t109 => (if t109 = true then (some (decide ((x1_1.size : Int) < 8))) else (some false))) = some r := by rw [if_neg (show ¬ (false = true) by decide)] at H; exact H
          clear H
          have H := H1
          clear H1
          replace H := Option.bind_eq_some_iff.mp H
          obtain ⟨t109, A90, H⟩ := H
          replace H : (if t109 = true then (some (decide ((x1_1.size : Int) < 8))) else (some false)) = some r := H
          have A9 := Aside0.mk A90
          clear A90
          by_cases c10 : t109 = true
          · subst c10
            have H1 : (some (decide ((x1_1.size : Int) < 8))) = some r := by rw [if_pos rfl] at H; exact H
            clear H
            have H := H1
            clear H1
            obtain rfl := Option.some.inj H
            go_wp2_with (first | ((with_reducible refine gate_callee (f := 14) rfl ?_); refine goesL_ (some 20) rfl rfl Try.func14 (by kernel_rfl) rfl #[.string x1_1, .int .i64 x6_1, .int .i64 x7_1] rfl (by (try simp only [List.map_toArray, List.map_cons, List.map_nil]); first | done | rfl | (simp only [List.length_drop, List.length_take]; rfl)) ?_; (with_reducible refine (spec_idRead.calls k1 x1_1 x6_1 x7_1 t105 t106 false _ A4.out).mono ?_); rintro e w11 ⟨rfl, hb⟩; refine ⟨_, rfl, ?_⟩; have n0_ := Aside0.mk (below_step (by repeat (first | (with_reducible first | exact HB.out | apply below_alloc | apply pw_below_drewN | apply below_drew1) | exact HB.out)) hb); clear HB; have HB := n0_; clear n0_; (try clear hb); (try clear hb2); (try clear hk); (try clear hi)) | ((with_reducible refine gate_callee (f := 15) rfl ?_); refine goesL_ (some 27) rfl rfl Try.func15 (by kernel_rfl) rfl #[.string x1_1] rfl (by (try simp only [List.map_toArray, List.map_cons, List.map_nil]); first | done | rfl | (simp only [List.length_drop, List.length_take]; rfl)) ?_; (with_reducible refine (spec_idDigitsOnly.calls k1 x1_1 true _ A9.out).mono ?_); rintro e w' ⟨rfl, ⟨nd, rfl⟩⟩; refine ⟨_, rfl, ?_⟩))
            go_ret
            exact ⟨by first | rfl | (simp [errW_none, errW_some] <;> rfl) | (simp [*, errW_none, errW_some] <;> rfl), by repeat (first | (with_reducible first | exact HB.out | apply below_alloc | apply pw_below_drewN | apply below_drew1) | exact HB.out)⟩
          · replace c10 := Bool.eq_false_iff.mpr c10
            subst c10
            have H1 : (some false) = some r := by rw [if_neg (show ¬ (false = true) by decide)] at H; exact H
            clear H
            have H := H1
            clear H1
            obtain rfl := Option.some.inj H
            go_wp2_with (first | ((with_reducible refine gate_callee (f := 14) rfl ?_); refine goesL_ (some 20) rfl rfl Try.func14 (by kernel_rfl) rfl #[.string x1_1, .int .i64 x6_1, .int .i64 x7_1] rfl (by (try simp only [List.map_toArray, List.map_cons, List.map_nil]); first | done | rfl | (simp only [List.length_drop, List.length_take]; rfl)) ?_; (with_reducible refine (spec_idRead.calls k1 x1_1 x6_1 x7_1 t105 t106 false _ A4.out).mono ?_); rintro e w12 ⟨rfl, hb⟩; refine ⟨_, rfl, ?_⟩; have n0_ := Aside0.mk (below_step (by repeat (first | (with_reducible first | exact HB.out | apply below_alloc | apply pw_below_drewN | apply below_drew1) | exact HB.out)) hb); clear HB; have HB := n0_; clear n0_; (try clear hb); (try clear hb2); (try clear hk); (try clear hi)) | ((with_reducible refine gate_callee (f := 15) rfl ?_); refine goesL_ (some 27) rfl rfl Try.func15 (by kernel_rfl) rfl #[.string x1_1] rfl (by (try simp only [List.map_toArray, List.map_cons, List.map_nil]); first | done | rfl | (simp only [List.length_drop, List.length_take]; rfl)) ?_; (with_reducible refine (spec_idDigitsOnly.calls k1 x1_1 false _ A9.out).mono ?_); rintro e w' ⟨rfl, ⟨nd, rfl⟩⟩; refine ⟨_, rfl, ?_⟩))
            go_ret
            exact ⟨by first | rfl | (simp [errW_none, errW_some] <;> rfl) | (simp [*, errW_none, errW_some] <;> rfl), by repeat (first | (with_reducible first | exact HB.out | apply below_alloc | apply pw_below_drewN | apply below_drew1) | exact HB.out)⟩

/-- THE ONE PURE STATEMENT of spec_DoorBreaksOff: yours. -/
def spec_DoorBreaksOff.Pure : Prop := ∀ (a0 : ByteArray) (a1 : ByteArray), a0.size ≤ 140737488351232 → a1.size ≤ 140737488351232 → ∃ k, spec_DoorBreaksOff.f k a0 a1 = some true
theorem spec_DoorBreaksOff.walk (P : spec_DoorBreaksOff.Pure) (a0 : ByteArray) (a1 : ByteArray) (w : World) (w0 : a0.size ≤ 140737488351232) (w1 : a1.size ≤ 140737488351232) :
    Calls Try.prog 8 #[.string a0, .string a1] w fun e w' => e = .returned (.bool true) ∧ Below w.heap.size w w' := by
  obtain ⟨k, h⟩ := P a0 a1 w0 w1
  refine (spec_DoorBreaksOff.calls k a0 a1 true w h).mono ?_
  rintro e w' ⟨rfl, hd⟩
  exact ⟨rfl, hd⟩

end Go.Proofs.Yteeodkmhelmedaa.PDoorBreaksOff
