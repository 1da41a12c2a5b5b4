-- PRINTED BY print.sh 35421559b90ae4d0a3588c463048766b98c2df88dd9212a6774a882060cdf62d: not written by this session
import Derived.Test.YteeodkmhelmedaaPFnPunycodeMadex0
namespace Go.Proofs.Yteeodkmhelmedaa.PFnPunycodeMade
open Go.RowKit Go.Proofs.YteeodkmhelmedaaW.PrintWords Go.Proofs.YteeodkmhelmedaaW.PrintLast Go.Proofs.YteeodkmhelmedaaW.PrintMore
attribute [local go_sem] max2_int min2_int max_two min_two max_three min_three max_four min_four   -- for this text's walks alone
set_option linter.unusedVariables false
set_option linter.unusedSimpArgs false

-- NOT PRINTED: function 29 (strings_Builder_String)

-- NOT PRINTED: function 23 (rustdemangle_zzRun)

-- NOT PRINTED: function 17 (rustdemangle_ZZPunycode)

-- NOT PRINTED: function 10 (impl_Punycode)

-- NOT PRINTED: function 9 (laws_doorPuny)

/-! ### spec_anCharacter: function 18 -/
def spec_anCharacter.f (a0 : Int) : Option (Int) := if (Int.tmod (wrap64 ((Int.tmod a0 1114112) + 1114112)) 1114112) < 160 then (if 0 ≤ (Int.tmod (Int.tmod (wrap64 ((Int.tmod a0 1114112) + 1114112)) 1114112) 63) then (if (Int.tmod (Int.tmod (wrap64 ((Int.tmod a0 1114112) + 1114112)) 1114112) 63) < 63 then (some (wrap64 (bt (⟨#[97, 98, 99, 100, 101, 102, 103, 104, 105, 106, 107, 108, 109, 110, 111, 112, 113, 114, 115, 116, 117, 118, 119, 120, 121, 122, 65, 66, 67, 68, 69, 70, 71, 72, 73, 74, 75, 76, 77, 78, 79, 80, 81, 82, 83, 84, 85, 86, 87, 88, 89, 90, 48, 49, 50, 51, 52, 53, 54, 55, 56, 57, 95]⟩ : ByteArray) (Int.tmod (Int.tmod (wrap64 ((Int.tmod a0 1114112) + 1114112)) 1114112) 63)))) else (none)) else (none)) else (if (Int.tmod (wrap64 ((Int.tmod a0 1114112) + 1114112)) 1114112) ≥ 55296 then (if (Int.tmod (wrap64 ((Int.tmod a0 1114112) + 1114112)) 1114112) ≤ 57343 then (some (wrap64 ((Int.tmod (wrap64 ((Int.tmod a0 1114112) + 1114112)) 1114112) - 2048))) else (some (Int.tmod (wrap64 ((Int.tmod a0 1114112) + 1114112)) 1114112))) else (some (Int.tmod (wrap64 ((Int.tmod a0 1114112) + 1114112)) 1114112)))
set_option maxHeartbeats 8000000 in
set_option maxRecDepth 100000 in
theorem spec_anCharacter.calls (a0 : Int) (r : Int) (w : World) (h : spec_anCharacter.f a0 = some r) :
    Calls Try.prog 18 #[.int .i64 a0] w fun e w' => e = .returned (.int .i64 r) ∧ Drawn0 w w' := by
  have H : (if (Int.tmod (wrap64 ((Int.tmod a0 1114112) + 1114112)) 1114112) < 160 then (if 0 ≤ (Int.tmod (Int.tmod (wrap64 ((Int.tmod a0 1114112) + 1114112)) 1114112) 63) then (if (Int.tmod (Int.tmod (wrap64 ((Int.tmod a0 1114112) + 1114112)) 1114112) 63) < 63 then (some (wrap64 (bt (⟨#[97, 98, 99, 100, 101, 102, 103, 104, 105, 106, 107, 108, 109, 110, 111, 112, 113, 114, 115, 116, 117, 118, 119, 120, 121, 122, 65, 66, 67, 68, 69, 70, 71, 72, 73, 74, 75, 76, 77, 78, 79, 80, 81, 82, 83, 84, 85, 86, 87, 88, 89, 90, 48, 49, 50, 51, 52, 53, 54, 55, 56, 57, 95]⟩ : ByteArray) (Int.tmod (Int.tmod (wrap64 ((Int.tmod a0 1114112) + 1114112)) 1114112) 63)))) else (none)) else (none)) else (if (Int.tmod (wrap64 ((Int.tmod a0 1114112) + 1114112)) 1114112) ≥ 55296 then (if (Int.tmod (wrap64 ((Int.tmod a0 1114112) + 1114112)) 1114112) ≤ 57343 then (some (wrap64 ((Int.tmod (wrap64 ((Int.tmod a0 1114112) + 1114112)) 1114112) - 2048))) else (some (Int.tmod (wrap64 ((Int.tmod a0 1114112) + 1114112)) 1114112))) else (some (Int.tmod (wrap64 ((Int.tmod a0 1114112) + 1114112)) 1114112)))) = some r := h
  clear h
  by_cases c2 : (Int.tmod (wrap64 ((Int.tmod a0 1114112) + 1114112)) 1114112) < 160
  · rw [if_pos c2] at H
    have c2b0 : decide ((Int.tmod (wrap64 ((Int.tmod a0 1114112) + 1114112)) 1114112) < 160) = true := decide_eq_true c2
    clear c2
    obtain ⟨ji3, hji3⟩ : ∃ j_ : Int, (Int.tmod (Int.tmod (wrap64 ((Int.tmod a0 1114112) + 1114112)) 1114112) 63) = j_ := ⟨_, rfl⟩
    replace H : (if 0 ≤ (ji3) then (if (ji3) < 63 then (some (wrap64 (bt (⟨#[97, 98, 99, 100, 101, 102, 103, 104, 105, 106, 107, 108, 109, 110, 111, 112, 113, 114, 115, 116, 117, 118, 119, 120, 121, 122, 65, 66, 67, 68, 69, 70, 71, 72, 73, 74, 75, 76, 77, 78, 79, 80, 81, 82, 83, 84, 85, 86, 87, 88, 89, 90, 48, 49, 50, 51, 52, 53, 54, 55, 56, 57, 95]⟩ : ByteArray) (ji3)))) else (none)) else (none)) = some r := by first | (rw [hji3] at H; exact H) | (simp only [hji3] at H ⊢; exact H)
    by_cases c4 : 0 ≤ (ji3)
    · rw [if_pos c4] at H
      have c4b0 : decide (0 ≤ (ji3)) = true := decide_eq_true c4
      clear c4
      by_cases c5 : (ji3) < 63
      · rw [if_pos c5] at H
        have c5b0 : decide ((ji3) < 63) = true := decide_eq_true c5
        clear c5
        obtain rfl := Option.some.inj H
        have p6 : 0 ≤ ((ji3) : Int) := of_decide_eq_true (by first | (with_reducible assumption) | assumption)
        have q6 : (ji3) < (63 : Int) := of_decide_eq_true (by first | (with_reducible assumption) | assumption)
        have hx6 := bt_at (⟨#[97, 98, 99, 100, 101, 102, 103, 104, 105, 106, 107, 108, 109, 110, 111, 112, 113, 114, 115, 116, 117, 118, 119, 120, 121, 122, 65, 66, 67, 68, 69, 70, 71, 72, 73, 74, 75, 76, 77, 78, 79, 80, 81, 82, 83, 84, 85, 86, 87, 88, 89, 90, 48, 49, 50, 51, 52, 53, 54, 55, 56, 57, 95]⟩ : ByteArray) (ji3)
        replace p6 := eq_true p6
        replace q6 := eq_true q6
        go_enter Try.func18, Try.ntmps18
        go_wp2
        go_ret
        exact ⟨by first | rfl | (simp; done) | (simp only [← hji3] <;> (first | rfl | simp)) | (simp [*]; done), by repeat (first | exact Drawn0.refl _ | apply Drawn0.step)⟩
      · rw [if_neg c5] at H
        exact absurd H (by simp)
    · rw [if_neg c4] at H
      exact absurd H (by simp)
  · rw [if_neg c2] at H
    have c2b0 : decide ((Int.tmod (wrap64 ((Int.tmod a0 1114112) + 1114112)) 1114112) < 160) = false := decide_eq_false c2
    clear c2
    by_cases c7 : (Int.tmod (wrap64 ((Int.tmod a0 1114112) + 1114112)) 1114112) ≥ 55296
    · rw [if_pos c7] at H
      have c7b0 : decide (55296 ≤ (Int.tmod (wrap64 ((Int.tmod a0 1114112) + 1114112)) 1114112)) = true := decide_eq_true c7
      clear c7
      by_cases c8 : (Int.tmod (wrap64 ((Int.tmod a0 1114112) + 1114112)) 1114112) ≤ 57343
      · rw [if_pos c8] at H
        have c8b0 : decide ((Int.tmod (wrap64 ((Int.tmod a0 1114112) + 1114112)) 1114112) ≤ 57343) = true := decide_eq_true c8
        clear c8
        obtain rfl := Option.some.inj H
        go_enter Try.func18, Try.ntmps18
        go_wp2
        go_ret
        exact ⟨by first | rfl | (simp; done) | (simp [*]; done), by repeat (first | exact Drawn0.refl _ | apply Drawn0.step)⟩
      · rw [if_neg c8] at H
        have c8b0 : decide ((Int.tmod (wrap64 ((Int.tmod a0 1114112) + 1114112)) 1114112) ≤ 57343) = false := decide_eq_false c8
        clear c8
        obtain rfl := Option.some.inj H
        go_enter Try.func18, Try.ntmps18
        go_wp2
        go_ret
        exact ⟨by first | rfl | (simp; done) | (simp [*]; done), by repeat (first | exact Drawn0.refl _ | apply Drawn0.step)⟩
    · rw [if_neg c7] at H
      have c7b0 : decide (55296 ≤ (Int.tmod (wrap64 ((Int.tmod a0 1114112) + 1114112)) 1114112)) = false := decide_eq_false c7
      clear c7
      obtain rfl := Option.some.inj H
      go_enter Try.func18, Try.ntmps18
      go_wp2
      go_ret
      exact ⟨by first | rfl | (simp; done) | (simp [*]; done), by repeat (first | exact Drawn0.refl _ | apply Drawn0.step)⟩

/-! ### spec_AnCharacters: function 11 -/
def spec_AnCharacters.l0 : Nat → List Int → Bool → List Int → Int → Int → Option (List Int)
  | 0, _, _, _, _, _ => none
  | k + 1, x3, x4, x9, x10, x11 => if x11 < x10 then (if 0 ≤ x11 then (if x11 < (x9.length : Int) then ((spec_anCharacter.f (rd x9 x11)).bind fun t105 => (if x4 = true then (if x3.length < 17592186044416 then (spec_AnCharacters.l0 k (x3 ++ [t105]) true x9 x10 (wrap64 (x11 + 1))) else (none)) else (if x3.length < 17592186044416 then (spec_AnCharacters.l0 k (x3 ++ [t105]) (decide (t105 ≥ 128)) x9 x10 (wrap64 (x11 + 1))) else (none)))) else (none)) else (none)) else (if x4 = true then (some x3) else (if x3.length < 17592186044416 then (some (x3 ++ [233])) else (none)))
def spec_AnCharacters.f (k : Nat) (l0 : List Int) : Option (List Int) := spec_AnCharacters.l0 k (([] : List Int)) false l0 (l0.length : Int) 0
theorem spec_AnCharacters.mono_l : ∀ k, (∀ y0 y1 y2 y3 y4, LeO (spec_AnCharacters.l0 k y0 y1 y2 y3 y4) (spec_AnCharacters.l0 (k + 1) y0 y1 y2 y3 y4))
  | 0 => fun _ _ _ _ _ r h => by simp [spec_AnCharacters.l0] at h
  | k + 1 => by
    have ih0 := spec_AnCharacters.mono_l k
    · intro y0 y1 y2 y3 y4
      unfold spec_AnCharacters.l0
      repeat' first
      | (with_reducible exact ih0 _ _ _ _ _)
      | (with_reducible exact LeO.refl _)
      | (with_reducible exact LeO.none _)
      | (with_reducible refine LeO.ite ?_ ?_)
      | (with_reducible refine LeO.bind ?_ (fun _ => ?_))
      | exact ih0 _ _ _ _ _
      | exact LeO.none _
      | refine LeO.ite ?_ ?_
      | refine LeO.bind ?_ (fun _ => ?_)
theorem spec_AnCharacters.mono : ∀ a0 k, LeO (spec_AnCharacters.f k a0) (spec_AnCharacters.f (k + 1) a0) := by
  intro a0 k
  have ih0 := spec_AnCharacters.mono_l k
  unfold spec_AnCharacters.f
  repeat' first
      | (with_reducible exact ih0 _ _ _ _ _)
      | (with_reducible exact LeO.refl _)
      | (with_reducible exact LeO.none _)
      | (with_reducible refine LeO.ite ?_ ?_)
      | (with_reducible refine LeO.bind ?_ (fun _ => ?_))
      | exact ih0 _ _ _ _ _
      | exact LeO.none _
      | refine LeO.ite ?_ ?_
      | refine LeO.bind ?_ (fun _ => ?_)
set_option maxHeartbeats 8000000 in
set_option maxRecDepth 100000 in
theorem spec_AnCharacters.calls (k : Nat) (A0 : Option Addr) (c0 : Nat) (l0 : List Int) (r : List Int) (w : World) (hr0 : Kd.C (Kd.int .i64) w A0 l0.length l0) (hc0 : l0.length ≤ c0) (h : spec_AnCharacters.f k l0 = some r) :
    Calls Try.prog 11 #[.slice A0 l0.length c0] w fun e w' => ∃ v0_ : Value, e = .returned (v0_) ∧ Kd.R (Kd.int .i64) 3 w' w.heap.size (fun _ => True) v0_ r ∧ Below w.heap.size w w' := by
  have HR0 := Aside0.mk hr0
  have HC0 := Aside0.mk hc0
  clear hr0 hc0
  have HB := Aside0.mk (Below.refl w.heap.size w)
  have H : (spec_AnCharacters.l0 k (([] : List Int)) false l0 (l0.length : Int) 0) = some r := h
  clear h
  obtain ⟨y101, hy101⟩ : ∃ y_ : List Int, y_ = (([] : List Int)) := ⟨_, rfl⟩
  replace H : (spec_AnCharacters.l0 k y101 false l0 (l0.length : Int) 0) = some r := by first | (rw [hy101]; with_reducible exact H) | (have H2_ := (Option.bind_some _ _).symm.trans H; rw [hy101]; with_reducible exact H2_) | (have H2_ := (Option.bind_some _ _).symm.trans H; with_reducible exact H2_) | with_reducible exact H | (rw [hy101]; exact H) | exact H
  have Ny101 := Aside0.mk hy101
  clear hy101
  have H' := Aside0.mk H
  clear H
  go_enter Try.func11, Try.ntmps11
  go_wp2_with (first | ((with_reducible refine gate_dst (N := 8) rfl ?_); refine Kd.R_lit (Kd.int .i64) _ 3 ?hg (N := 8) ?hd (xs := ([] : List Int)) (inner := []) (ok := fun _ => True) (okp := fun _ => True) ?hr ?hp (fun _ hk => hk) trivial (Below.refl _ _) (Nat.le_refl _) (by simp) ?_; (case hd => rfl); (case hg => rfl); (case hr => first | (go_simp; done) | (go_simp; rfl)); (case hp => exact (Reps.none _ _)); intro v102 w2 ho3 hb hg_ hnew_; clear hg_ hnew_; (first | rw [← Ny101.out] at ho3 | (simp only [Int.reduceToNat] at ho3; rw [← Ny101.out] at ho3)); have n0_ := Aside0.mk (Kd.R_lower ho3 (below_size (by repeat (first | (with_reducible first | exact HB.out | apply below_alloc | apply pw_below_drewN | apply below_drew1) | exact HB.out)))); have n1_ := Aside0.mk (below_step (by repeat (first | (with_reducible first | exact HB.out | apply below_alloc | apply pw_below_drewN | apply below_drew1) | exact HB.out)) hb); clear HB; have HO103 := n0_; have HB := n1_; clear n0_ n1_; clear hb ho3))
  go_loopg [3, 4, 11] k (fun kq v3 v4 v11 w' => ∃ (x3_1 : List Int) (x4_1 : Bool) (x11_1 : Int), v4 = .bool x4_1 ∧ v11 = .int .i64 x11_1 ∧ Aside0 (spec_AnCharacters.l0 kq x3_1 x4_1 l0 (l0.length : Int) x11_1 = some r) ∧ Aside0 (kq ≤ k) ∧ Aside0 (Kd.R (Kd.int .i64) 3 w' w.heap.size (fun _ => True) v3 x3_1) ∧ Aside0 (Below w.heap.size w w'))
  case atStart => exact ⟨(y101), (false), (0), (by first | rfl | (simp; done) | (simp [*]; done)), (by first | rfl | (simp; done) | (simp [*]; done)), H', ⟨Nat.le_refl _⟩, ⟨by (with_reducible repeat (first | apply Kd.R_alloc | apply Kd.R_drewN | apply Kd.R_drew)); exact HO103.out⟩, ⟨by repeat (first | (with_reducible first | exact HB.out | apply below_alloc | apply pw_below_drewN | apply below_drew1) | exact HB.out)⟩⟩
  case round =>
    clear H'
    try clear c1
    try clear p2
    obtain ⟨x3_1, x4_1, x11_1, rfl, rfl, HA, HK1, HO_3, HB⟩ := hrel
    cases gk with
    | zero => exact absurd HA.out (by simp [spec_AnCharacters.l0])
    | succ k1 =>
      have H := HA.out
      clear HA
      simp only [spec_AnCharacters.l0] at H
      by_cases c4 : x11_1 < (l0.length : Int)
      · rw [if_pos c4] at H
        have c4b0 : decide (x11_1 < (l0.length : Int)) = true := decide_eq_true c4
        clear c4
        by_cases c5 : 0 ≤ x11_1
        · rw [if_pos c5] at H
          have c5b0 : decide (0 ≤ x11_1) = true := decide_eq_true c5
          clear c5
          by_cases c6 : x11_1 < (l0.length : Int)
          · rw [if_pos c6] at H
            have c6b0 : decide (x11_1 < (l0.length : Int)) = true := decide_eq_true c6
            clear c6
            replace H := Option.bind_eq_some_iff.mp H
            obtain ⟨t105, A70, H⟩ := H
            replace H : (if x4_1 = true then (if x3_1.length < 17592186044416 then (spec_AnCharacters.l0 k1 (x3_1 ++ [t105]) true l0 (l0.length : Int) (wrap64 (x11_1 + 1))) else (none)) else (if x3_1.length < 17592186044416 then (spec_AnCharacters.l0 k1 (x3_1 ++ [t105]) (decide (t105 ≥ 128)) l0 (l0.length : Int) (wrap64 (x11_1 + 1))) else (none))) = some r := H
            have A7 := Aside0.mk A70
            clear A70
            by_cases c8 : x4_1 = true
            · subst c8
              have H1 : (if x3_1.length < 17592186044416 then (spec_AnCharacters.l0 k1 (x3_1 ++ [t105]) true l0 (l0.length : Int) (wrap64 (x11_1 + 1))) else (none)) = some r := by rw [if_pos rfl] at H; exact H
              clear H
              have H := H1
              clear H1
              by_cases c9 : x3_1.length < 17592186044416
              · rw [if_pos c9] at H
                have LMc9 := Aside0.mk c9
                clear c9
                obtain ⟨y106, hy106⟩ : ∃ y_ : List Int, y_ = (x3_1 ++ [t105]) := ⟨_, rfl⟩
                replace H : (spec_AnCharacters.l0 k1 y106 true l0 (l0.length : Int) (wrap64 (x11_1 + 1))) = some r := by first | (rw [hy106]; with_reducible exact H) | (have H2_ := (Option.bind_some _ _).symm.trans H; rw [hy106]; with_reducible exact H2_) | (have H2_ := (Option.bind_some _ _).symm.trans H; with_reducible exact H2_) | with_reducible exact H | (rw [hy106]; exact H) | exact H
                have Ny106 := Aside0.mk hy106
                clear hy106
                have H' := Aside0.mk H
                clear H
                have p104 : 0 ≤ (x11_1 : Int) := of_decide_eq_true (by first | (with_reducible assumption) | assumption)
                have q104 : x11_1 < (l0.length : Int) := of_decide_eq_true (by first | (with_reducible assumption) | assumption)
                obtain ⟨ad104, e104, hx104_0⟩ := Kd.at_int HR0.out x11_1 p104 q104
                cases e104
                replace hx104_0 := (HB.out.cell (World.block_lt_of_cell? w _ hx104_0)).trans hx104_0
                replace p104 := eq_true p104
                replace q104 := eq_true q104
                go_wp2_with (first | ((with_reducible refine gate_callee (f := 18) rfl ?_); refine goesL_ (some 16) rfl rfl Try.func18 (by kernel_rfl) rfl #[.int .i64 (rd l0 x11_1)] rfl (by (try simp only [List.map_toArray, List.map_cons, List.map_nil]); first | done | rfl | (simp only [List.length_drop, List.length_take]; rfl)) ?_; (with_reducible refine (spec_anCharacter.calls (rd l0 x11_1) t105 _ A7.out).mono ?_); rintro e w' ⟨rfl, ⟨nd, rfl⟩⟩; refine ⟨_, rfl, ?_⟩) | ((with_reducible refine gate_builtin (b := .append) (xs := #[.tmp 22, .tmp 24]) rfl ?_); at_builtin; refine Kd.R_append (Kd.int .i64) (w0 := w) w.heap.size rfl (.tmp 22) (.tmp 24) 30 3 (.int .i64 0) 8 rfl Try.underlying30 info3 rfl (by decide) (by omega) u3 x3_1 t105 [.int .i64 t105] (fun _ => True) (fun _ => False) rfl rfl ?aP (fun _ hk => hk.elim) ?aF ?aO ?aB ?aS ?aL ?_; (case aP => exact rfl); (case aB => exact (by repeat (first | (with_reducible first | exact HB.out | apply below_alloc | apply pw_below_drewN | apply below_drew1) | exact HB.out))); (case aF => exact (fun _ _ => trivial)); (case aO => exact (by (with_reducible repeat (first | apply Kd.R_alloc | apply Kd.R_drewN | apply Kd.R_drew)); exact HO_3.out)); (case aS => exact (below_size (by repeat (first | (with_reducible first | exact HB.out | apply below_alloc | apply pw_below_drewN | apply below_drew1) | exact HB.out)))); (case aL => have := LMc9.out; omega); intro v107 w10 ho hb hg hat; rw [← Ny106.out] at ho; have n0_ := Aside0.mk (hb); have n1_ := Aside0.mk (ho); clear HB; clear HO_3; have HB := n0_; have HO108 := n1_; clear n0_ n1_; clear ho hb hg hat))
                go_roundg k1
                case measure => have := HK1.out; omega
                case rel => exact ⟨(y106), (true), (wrap64 (x11_1 + 1)), (by first | rfl | (simp; done) | (simp [*]; done)), (by first | rfl | (simp; done) | (simp [*]; done)), H', ⟨by have := HK1.out; omega⟩, ⟨by (with_reducible repeat (first | apply Kd.R_alloc | apply Kd.R_drewN | apply Kd.R_drew)); exact HO108.out⟩, ⟨by repeat (first | (with_reducible first | exact HB.out | apply below_alloc | apply pw_below_drewN | apply below_drew1) | exact HB.out)⟩⟩
              · rw [if_neg c9] at H
                exact absurd H (by simp)
            · replace c8 := Bool.eq_false_iff.mpr c8
              subst c8
              have H1 : (if x3_1.length < 17592186044416 then (spec_AnCharacters.l0 k1 (x3_1 ++ [t105]) (decide (t105 ≥ 128)) l0 (l0.length : Int) (wrap64 (x11_1 + 1))) else (none)) = some r := by rw [if_neg (show ¬ (false = true) by decide)] at H; exact H
              clear H
              have H := H1
              clear H1
              by_cases c11 : x3_1.length < 17592186044416
              · rw [if_pos c11] at H
                have LMc11 := Aside0.mk c11
                clear c11
                obtain ⟨y109, hy109⟩ : ∃ y_ : List Int, y_ = (x3_1 ++ [t105]) := ⟨_, rfl⟩
                replace H : (spec_AnCharacters.l0 k1 y109 (decide (t105 ≥ 128)) l0 (l0.length : Int) (wrap64 (x11_1 + 1))) = some r := by first | (rw [hy109]; with_reducible exact H) | (have H2_ := (Option.bind_some _ _).symm.trans H; rw [hy109]; with_reducible exact H2_) | (have H2_ := (Option.bind_some _ _).symm.trans H; with_reducible exact H2_) | with_reducible exact H | (rw [hy109]; exact H) | exact H
                have Ny109 := Aside0.mk hy109
                clear hy109
                have H' := Aside0.mk H
                clear H
                have p104 : 0 ≤ (x11_1 : Int) := of_decide_eq_true (by first | (with_reducible assumption) | assumption)
                have q104 : x11_1 < (l0.length : Int) := of_decide_eq_true (by first | (with_reducible assumption) | assumption)
                obtain ⟨ad104, e104, hx104_0⟩ := Kd.at_int HR0.out x11_1 p104 q104
                cases e104
                replace hx104_0 := (HB.out.cell (World.block_lt_of_cell? w _ hx104_0)).trans hx104_0
                replace p104 := eq_true p104
                replace q104 := eq_true q104
                go_wp2_with (first | ((with_reducible refine gate_callee (f := 18) rfl ?_); refine goesL_ (some 16) rfl rfl Try.func18 (by kernel_rfl) rfl #[.int .i64 (rd l0 x11_1)] rfl (by (try simp only [List.map_toArray, List.map_cons, List.map_nil]); first | done | rfl | (simp only [List.length_drop, List.length_take]; rfl)) ?_; (with_reducible refine (spec_anCharacter.calls (rd l0 x11_1) t105 _ A7.out).mono ?_); rintro e w' ⟨rfl, ⟨nd, rfl⟩⟩; refine ⟨_, rfl, ?_⟩) | ((with_reducible refine gate_builtin (b := .append) (xs := #[.tmp 22, .tmp 24]) rfl ?_); at_builtin; refine Kd.R_append (Kd.int .i64) (w0 := w) w.heap.size rfl (.tmp 22) (.tmp 24) 30 3 (.int .i64 0) 8 rfl Try.underlying30 info3 rfl (by decide) (by omega) u3 x3_1 t105 [.int .i64 t105] (fun _ => True) (fun _ => False) rfl rfl ?aP (fun _ hk => hk.elim) ?aF ?aO ?aB ?aS ?aL ?_; (case aP => exact rfl); (case aB => exact (by repeat (first | (with_reducible first | exact HB.out | apply below_alloc | apply pw_below_drewN | apply below_drew1) | exact HB.out))); (case aF => exact (fun _ _ => trivial)); (case aO => exact (by (with_reducible repeat (first | apply Kd.R_alloc | apply Kd.R_drewN | apply Kd.R_drew)); exact HO_3.out)); (case aS => exact (below_size (by repeat (first | (with_reducible first | exact HB.out | apply below_alloc | apply pw_below_drewN | apply below_drew1) | exact HB.out)))); (case aL => have := LMc11.out; omega); intro v110 w12 ho hb hg hat; rw [← Ny109.out] at ho; have n0_ := Aside0.mk (hb); have n1_ := Aside0.mk (ho); clear HB; clear HO_3; have HB := n0_; have HO111 := n1_; clear n0_ n1_; clear ho hb hg hat))
                go_roundg k1
                case measure => have := HK1.out; omega
                case rel => exact ⟨(y109), (decide (t105 ≥ 128)), (wrap64 (x11_1 + 1)), (by first | rfl | (simp; done) | (simp [*]; done)), (by first | rfl | (simp; done) | (simp [*]; done)), H', ⟨by have := HK1.out; omega⟩, ⟨by (with_reducible repeat (first | apply Kd.R_alloc | apply Kd.R_drewN | apply Kd.R_drew)); exact HO111.out⟩, ⟨by repeat (first | (with_reducible first | exact HB.out | apply below_alloc | apply pw_below_drewN | apply below_drew1) | exact HB.out)⟩⟩
              · rw [if_neg c11] at H
                exact absurd H (by simp)
          · rw [if_neg c6] at H
            exact absurd H (by simp)
        · rw [if_neg c5] at H
          exact absurd H (by simp)
      · rw [if_neg c4] at H
        have c4b0 : decide (x11_1 < (l0.length : Int)) = false := decide_eq_false c4
        clear c4
        by_cases c13 : x4_1 = true
        · subst c13
          have H1 : (some x3_1) = some r := by rw [if_pos rfl] at H; exact H
          clear H
          have H := H1
          clear H1
          obtain rfl := Option.some.inj H
          go_wp2
          go_ret
          exact ⟨_, by first | rfl | (simp [errW_none, errW_some] <;> rfl) | (simp [*, errW_none, errW_some] <;> rfl), by (with_reducible repeat (first | apply Kd.R_alloc | apply Kd.R_drewN | apply Kd.R_drew)); exact HO_3.out, by repeat (first | (with_reducible first | exact HB.out | apply below_alloc | apply pw_below_drewN | apply below_drew1) | exact HB.out)⟩
        · replace c13 := Bool.eq_false_iff.mpr c13
          subst c13
          have H1 : (if x3_1.length < 17592186044416 then (some (x3_1 ++ [233])) else (none)) = some r := by rw [if_neg (show ¬ (false = true) by decide)] at H; exact H
          clear H
          have H := H1
          clear H1
          by_cases c14 : x3_1.length < 17592186044416
          · rw [if_pos c14] at H
            have LMc14 := Aside0.mk c14
            clear c14
            obtain ⟨y112, hy112⟩ : ∃ y_ : List Int, y_ = (x3_1 ++ [233]) := ⟨_, rfl⟩
            replace H : (some y112) = some r := by first | (rw [hy112]; with_reducible exact H) | (have H2_ := (Option.bind_some _ _).symm.trans H; rw [hy112]; with_reducible exact H2_) | (have H2_ := (Option.bind_some _ _).symm.trans H; with_reducible exact H2_) | with_reducible exact H | (rw [hy112]; exact H) | exact H
            have Ny112 := Aside0.mk hy112
            clear hy112
            obtain rfl := Option.some.inj H
            go_wp2_with (first | ((with_reducible refine gate_builtin (b := .append) (xs := #[.tmp 29, .tmp 30]) rfl ?_); at_builtin; refine Kd.R_append (Kd.int .i64) (w0 := w) w.heap.size rfl (.tmp 29) (.tmp 30) 30 3 (.int .i64 0) 8 rfl Try.underlying30 info3 rfl (by decide) (by omega) u3 x3_1 233 [.int .i64 233] (fun _ => True) (fun _ => False) rfl rfl ?aP (fun _ hk => hk.elim) ?aF ?aO ?aB ?aS ?aL ?_; (case aP => exact rfl); (case aB => exact (by repeat (first | (with_reducible first | exact HB.out | apply below_alloc | apply pw_below_drewN | apply below_drew1) | exact HB.out))); (case aF => exact (fun _ _ => trivial)); (case aO => exact (by (with_reducible repeat (first | apply Kd.R_alloc | apply Kd.R_drewN | apply Kd.R_drew)); exact HO_3.out)); (case aS => exact (below_size (by repeat (first | (with_reducible first | exact HB.out | apply below_alloc | apply pw_below_drewN | apply below_drew1) | exact HB.out)))); (case aL => have := LMc14.out; omega); intro v113 w15 ho hb hg hat; rw [← Ny112.out] at ho; have n0_ := Aside0.mk (hb); have n1_ := Aside0.mk (ho); clear HB; clear HO_3; have HB := n0_; have HO114 := n1_; clear n0_ n1_; clear ho hb hg hat))
            go_ret
            exact ⟨_, by first | rfl | (simp [errW_none, errW_some] <;> rfl) | (simp [*, errW_none, errW_some] <;> rfl), by (with_reducible repeat (first | apply Kd.R_alloc | apply Kd.R_drewN | apply Kd.R_drew)); exact HO114.out, by repeat (first | (with_reducible first | exact HB.out | apply below_alloc | apply pw_below_drewN | apply below_drew1) | exact HB.out)⟩
          · rw [if_neg c14] at H
            exact absurd H (by simp)

/-! ### spec_idAdapted: function 16 -/
mutual
def spec_idAdapted.j0 : Nat → Int → Int → Option (Int)
  | 0, _, _ => none
  | k + 1, x0, x1 => if x1 = 0 then (none) else (spec_idAdapted.l0 k (wrap64 (x0 + (wrap64 (Int.tdiv x0 x1)))) 0)
def spec_idAdapted.l0 : Nat → Int → Int → Option (Int)
  | 0, _, _ => none
  | k + 1, x0, x7 => if x0 > 455 then (spec_idAdapted.l0 k (wrap64 (Int.tdiv x0 35)) (wrap64 (x7 + 36))) else (if (wrap64 (x0 + 38)) = 0 then (none) else (some (wrap64 (x7 + (wrap64 (Int.tdiv (wrap64 (36 * x0)) (wrap64 (x0 + 38))))))))
end
def spec_idAdapted.f (k : Nat) (a0 : Int) (a1 : Int) (a2 : Bool) : Option (Int) := if a2 = true then (spec_idAdapted.j0 k (wrap64 (Int.tdiv a0 700)) a1) else (spec_idAdapted.j0 k (wrap64 (Int.tdiv a0 2)) a1)
theorem spec_idAdapted.mono_l : ∀ k, (∀ y0 y1, LeO (spec_idAdapted.j0 k y0 y1) (spec_idAdapted.j0 (k + 1) y0 y1)) ∧ (∀ y0 y1, LeO (spec_idAdapted.l0 k y0 y1) (spec_idAdapted.l0 (k + 1) y0 y1))
  | 0 => ⟨fun _ _ r h => by simp [spec_idAdapted.j0] at h, fun _ _ r h => by simp [spec_idAdapted.l0] at h⟩
  | k + 1 => by
    obtain ⟨ih0, ih1⟩ := spec_idAdapted.mono_l k
    refine ⟨?_, ?_⟩
    · intro y0 y1
      unfold spec_idAdapted.j0
      repeat' first
      | (with_reducible exact ih0 _ _)
      | (with_reducible exact ih1 _ _)
      | (with_reducible exact LeO.refl _)
      | (with_reducible exact LeO.none _)
      | (with_reducible refine LeO.ite ?_ ?_)
      | (with_reducible refine LeO.bind ?_ (fun _ => ?_))
      | exact ih0 _ _
      | exact ih1 _ _
      | exact LeO.none _
      | refine LeO.ite ?_ ?_
      | refine LeO.bind ?_ (fun _ => ?_)
    · intro y0 y1
      unfold spec_idAdapted.l0
      repeat' first
      | (with_reducible exact ih0 _ _)
      | (with_reducible exact ih1 _ _)
      | (with_reducible exact LeO.refl _)
      | (with_reducible exact LeO.none _)
      | (with_reducible refine LeO.ite ?_ ?_)
      | (with_reducible refine LeO.bind ?_ (fun _ => ?_))
      | exact ih0 _ _
      | exact ih1 _ _
      | exact LeO.none _
      | refine LeO.ite ?_ ?_
      | refine LeO.bind ?_ (fun _ => ?_)
theorem spec_idAdapted.mono : ∀ a0 a1 a2 k, LeO (spec_idAdapted.f k a0 a1 a2) (spec_idAdapted.f (k + 1) a0 a1 a2) := by
  intro a0 a1 a2 k
  obtain ⟨ih0, ih1⟩ := spec_idAdapted.mono_l k
  unfold spec_idAdapted.f
  repeat' first
      | (with_reducible exact ih0 _ _)
      | (with_reducible exact ih1 _ _)
      | (with_reducible exact LeO.refl _)
      | (with_reducible exact LeO.none _)
      | (with_reducible refine LeO.ite ?_ ?_)
      | (with_reducible refine LeO.bind ?_ (fun _ => ?_))
      | exact ih0 _ _
      | exact ih1 _ _
      | exact LeO.none _
      | refine LeO.ite ?_ ?_
      | refine LeO.bind ?_ (fun _ => ?_)
set_option maxHeartbeats 8000000 in
set_option maxRecDepth 100000 in
theorem spec_idAdapted.calls (k : Nat) (a0 : Int) (a1 : Int) (a2 : Bool) (r : Int) (w : World) (h : spec_idAdapted.f k a0 a1 a2 = some r) :
    Calls Try.prog 16 #[.int .i64 a0, .int .i64 a1, .bool a2] w fun e w' => e = .returned (.int .i64 r) ∧ Drawn0 w w' := by
  have H : (if a2 = true then (spec_idAdapted.j0 k (wrap64 (Int.tdiv a0 700)) a1) else (spec_idAdapted.j0 k (wrap64 (Int.tdiv a0 2)) a1)) = some r := h
  clear h
  have HC4 := Aside0.mk H
  clear H
  go_enter Try.func16, Try.ntmps16
  go_upto_if 8 with (fail)
  go_cut [0] (fun v0 wc => ∃ (kq : Nat) (x0_3 : Int), v0 = .int .i64 x0_3 ∧ Aside0 (spec_idAdapted.j0 kq x0_3 a1 = some r) ∧ Aside0 (kq ≤ k) ∧ Drawn0 w wc)
  case first =>
    have H := HC4.out
    clear HC4
    by_cases c5 : a2 = true
    · subst c5
      have H1 : (spec_idAdapted.j0 k (wrap64 (Int.tdiv a0 700)) a1) = some r := by rw [if_pos rfl] at H; exact H
      clear H
      have H := H1
      clear H1
      have H' := Aside0.mk H
      clear H
      go_wp2
      go_meet
      case rel => exact ⟨_, (wrap64 (Int.tdiv a0 700)), (by first | rfl | (simp; done) | (simp [*]; done)), H', ⟨by first | omega | exact Nat.le_refl _⟩, by repeat (first | exact Drawn0.refl _ | apply Drawn0.step)⟩
    · replace c5 := Bool.eq_false_iff.mpr c5
      subst c5
      have H1 : (spec_idAdapted.j0 k (wrap64 (Int.tdiv a0 2)) a1) = some r := by rw [if_neg (show ¬ (false = true) by decide)] at H; exact H
      clear H
      have H := H1
      clear H1
      have H' := Aside0.mk H
      clear H
      go_wp2
      go_meet
      case rel => exact ⟨_, (wrap64 (Int.tdiv a0 2)), (by first | rfl | (simp; done) | (simp [*]; done)), H', ⟨by first | omega | exact Nat.le_refl _⟩, by repeat (first | exact Drawn0.refl _ | apply Drawn0.step)⟩
  case rest =>
    clear HC4
    try clear c1
    try clear p2
    try clear c5
    obtain ⟨kq, x0_3, rfl, HA, HJ3, ⟨mc3, rfl⟩⟩ := hcut
    cases kq with
    | zero => exact absurd HA.out (by simp [spec_idAdapted.j0])
    | succ kj3 =>
      have H := HA.out
      clear HA
      simp only [spec_idAdapted.j0] at H
      by_cases c6 : a1 = 0
      · rw [if_pos c6] at H
        exact absurd H (by simp)
      · rw [if_neg c6] at H
        have c6b0 : (a1 == 0) = false := beq_eq_false_iff_ne.mpr c6
        have c6b1 : (a1 != 0) = true := bne_iff_ne.mpr c6
        have H' := Aside0.mk H
        clear H
        go_wp2
        go_loopg [0, 7] kj3 (fun kq v0 v7 w' => ∃ (x0_2 : Int) (x7_2 : Int), v0 = .int .i64 x0_2 ∧ v7 = .int .i64 x7_2 ∧ Aside0 (spec_idAdapted.l0 kq x0_2 x7_2 = some r) ∧ Aside0 (kq ≤ kj3) ∧ Drawn0 w w')
        case atStart => exact ⟨(wrap64 (x0_3 + (wrap64 (Int.tdiv x0_3 a1)))), (0), (by first | rfl | (simp; done) | (simp [*]; done)), (by first | rfl | (simp; done) | (simp [*]; done)), H', ⟨Nat.le_refl _⟩, by repeat (first | exact Drawn0.refl _ | apply Drawn0.step)⟩
        case round =>
          clear H'
          try clear c1
          try clear p2
          try clear c3
          try clear c5
          try clear c6
          try clear c6b0
          try clear c6b1
          try clear p6
          try clear p2
          obtain ⟨x0_2, x7_2, rfl, rfl, HA, HK2, ⟨m2, rfl⟩⟩ := hrel
          cases gk with
          | zero => exact absurd HA.out (by simp [spec_idAdapted.l0])
          | succ k2 =>
            have H := HA.out
            clear HA
            simp only [spec_idAdapted.l0] at H
            by_cases c7 : x0_2 > 455
            · rw [if_pos c7] at H
              have c7b0 : decide (455 < x0_2) = true := decide_eq_true c7
              clear c7
              have H' := Aside0.mk H
              clear H
              go_wp2
              go_roundg k2
              case measure => have := HJ3.out; have := HK2.out; omega
              case rel => exact ⟨(wrap64 (Int.tdiv x0_2 35)), (wrap64 (x7_2 + 36)), (by first | rfl | (simp; done) | (simp [*]; done)), (by first | rfl | (simp; done) | (simp [*]; done)), H', ⟨by have := HJ3.out; have := HK2.out; omega⟩, by repeat (first | exact Drawn0.refl _ | apply Drawn0.step)⟩
            · rw [if_neg c7] at H
              have c7b0 : decide (455 < x0_2) = false := decide_eq_false c7
              clear c7
              by_cases c8 : (wrap64 (x0_2 + 38)) = 0
              · rw [if_pos c8] at H
                exact absurd H (by simp)
              · rw [if_neg c8] at H
                have c8b0 : ((wrap64 (x0_2 + 38)) == 0) = false := beq_eq_false_iff_ne.mpr c8
                have c8b1 : ((wrap64 (x0_2 + 38)) != 0) = true := bne_iff_ne.mpr c8
                obtain rfl := Option.some.inj H
                go_wp2
                go_ret
                exact ⟨by first | rfl | (simp; done) | (simp [*]; done), by repeat (first | exact Drawn0.refl _ | apply Drawn0.step)⟩

/-! ### spec_idNext: function 19 -/
def spec_idNext.l0 : Nat → Int → Int → List Int → Int → Int → Option (Int)
  | 0, _, _, _, _, _ => none
  | k + 1, x1, x5, x8, x9, x10 => if x10 < x9 then (if 0 ≤ x10 then (if x10 < (x8.length : Int) then (if (rd x8 x10) ≥ x1 then (if x5 < 0 then (spec_idNext.l0 k x1 (rd x8 x10) x8 x9 (wrap64 (x10 + 1))) else (if (rd x8 x10) < x5 then (spec_idNext.l0 k x1 (rd x8 x10) x8 x9 (wrap64 (x10 + 1))) else (spec_idNext.l0 k x1 x5 x8 x9 (wrap64 (x10 + 1))))) else (spec_idNext.l0 k x1 x5 x8 x9 (wrap64 (x10 + 1)))) else (none)) else (none)) else (some x5)
def spec_idNext.f (k : Nat) (l0 : List Int) (a1 : Int) : Option (Int) := spec_idNext.l0 k a1 (-1) l0 (l0.length : Int) 0
theorem spec_idNext.mono_l : ∀ k, (∀ y0 y1 y2 y3 y4, LeO (spec_idNext.l0 k y0 y1 y2 y3 y4) (spec_idNext.l0 (k + 1) y0 y1 y2 y3 y4))
  | 0 => fun _ _ _ _ _ r h => by simp [spec_idNext.l0] at h
  | k + 1 => by
    have ih0 := spec_idNext.mono_l k
    · intro y0 y1 y2 y3 y4
      unfold spec_idNext.l0
      repeat' first
      | (with_reducible exact ih0 _ _ _ _ _)
      | (with_reducible exact LeO.refl _)
      | (with_reducible exact LeO.none _)
      | (with_reducible refine LeO.ite ?_ ?_)
      | (with_reducible refine LeO.bind ?_ (fun _ => ?_))
      | exact ih0 _ _ _ _ _
      | exact LeO.none _
      | refine LeO.ite ?_ ?_
      | refine LeO.bind ?_ (fun _ => ?_)
theorem spec_idNext.mono : ∀ a0 a1 k, LeO (spec_idNext.f k a0 a1) (spec_idNext.f (k + 1) a0 a1) := by
  intro a0 a1 k
  have ih0 := spec_idNext.mono_l k
  unfold spec_idNext.f
  repeat' first
      | (with_reducible exact ih0 _ _ _ _ _)
      | (with_reducible exact LeO.refl _)
      | (with_reducible exact LeO.none _)
      | (with_reducible refine LeO.ite ?_ ?_)
      | (with_reducible refine LeO.bind ?_ (fun _ => ?_))
      | exact ih0 _ _ _ _ _
      | exact LeO.none _
      | refine LeO.ite ?_ ?_
      | refine LeO.bind ?_ (fun _ => ?_)
set_option maxHeartbeats 8000000 in
set_option maxRecDepth 100000 in
theorem spec_idNext.calls (k : Nat) (A0 : Option Addr) (c0 : Nat) (l0 : List Int) (a1 : Int) (r : Int) (w : World) (hr0 : Kd.C (Kd.int .i64) w A0 l0.length l0) (hc0 : l0.length ≤ c0) (h : spec_idNext.f k l0 a1 = some r) :
    Calls Try.prog 19 #[.slice A0 l0.length c0, .int .i64 a1] w fun e w' => e = .returned (.int .i64 r) ∧ Drawn0 w w' := by
  have HR0 := Aside0.mk hr0
  have HC0 := Aside0.mk hc0
  clear hr0 hc0
  have H : (spec_idNext.l0 k a1 (-1) l0 (l0.length : Int) 0) = some r := h
  clear h
  have H' := Aside0.mk H
  clear H
  go_enter Try.func19, Try.ntmps19
  go_wp2
  go_loopg [5, 10] k (fun kq v5 v10 w' => ∃ (x5_1 : Int) (x10_1 : Int), v5 = .int .i64 x5_1 ∧ v10 = .int .i64 x10_1 ∧ Aside0 (spec_idNext.l0 kq a1 x5_1 l0 (l0.length : Int) x10_1 = some r) ∧ Aside0 (kq ≤ k) ∧ Drawn0 w w')
  case atStart => exact ⟨((-1)), (0), (by first | rfl | (simp; done) | (simp [*]; done)), (by first | rfl | (simp; done) | (simp [*]; done)), H', ⟨Nat.le_refl _⟩, by repeat (first | exact Drawn0.refl _ | apply Drawn0.step)⟩
  case round =>
    clear H'
    try clear c1
    try clear p2
    obtain ⟨x5_1, x10_1, rfl, rfl, HA, HK1, ⟨m1, rfl⟩⟩ := hrel
    cases gk with
    | zero => exact absurd HA.out (by simp [spec_idNext.l0])
    | succ k1 =>
      have H := HA.out
      clear HA
      simp only [spec_idNext.l0] at H
      by_cases c3 : x10_1 < (l0.length : Int)
      · rw [if_pos c3] at H
        have c3b0 : decide (x10_1 < (l0.length : Int)) = true := decide_eq_true c3
        clear c3
        by_cases c4 : 0 ≤ x10_1
        · rw [if_pos c4] at H
          have c4b0 : decide (0 ≤ x10_1) = true := decide_eq_true c4
          clear c4
          by_cases c5 : x10_1 < (l0.length : Int)
          · rw [if_pos c5] at H
            have c5b0 : decide (x10_1 < (l0.length : Int)) = true := decide_eq_true c5
            clear c5
            by_cases c6 : (rd l0 x10_1) ≥ a1
            · rw [if_pos c6] at H
              have c6b0 : decide (a1 ≤ (rd l0 x10_1)) = true := decide_eq_true c6
              clear c6
              by_cases c7 : x5_1 < 0
              · rw [if_pos c7] at H
                have c7b0 : decide (x5_1 < 0) = true := decide_eq_true c7
                clear c7
                have H' := Aside0.mk H
                clear H
                have p115 : 0 ≤ (x10_1 : Int) := of_decide_eq_true (by first | (with_reducible assumption) | assumption)
                have q115 : x10_1 < (l0.length : Int) := of_decide_eq_true (by first | (with_reducible assumption) | assumption)
                obtain ⟨ad115, e115, hx115_0⟩ := Kd.at_int HR0.out x10_1 p115 q115
                cases e115
                replace p115 := eq_true p115
                replace q115 := eq_true q115
                go_wp2
                go_roundg k1
                case measure => have := HK1.out; omega
                case rel => exact ⟨(rd l0 x10_1), (wrap64 (x10_1 + 1)), (by first | rfl | (simp; done) | (simp [*]; done)), (by first | rfl | (simp; done) | (simp [*]; done)), H', ⟨by have := HK1.out; omega⟩, by repeat (first | exact Drawn0.refl _ | apply Drawn0.step)⟩
              · rw [if_neg c7] at H
                have c7b0 : decide (x5_1 < 0) = false := decide_eq_false c7
                clear c7
                by_cases c8 : (rd l0 x10_1) < x5_1
                · rw [if_pos c8] at H
                  have c8b0 : decide ((rd l0 x10_1) < x5_1) = true := decide_eq_true c8
                  clear c8
                  have H' := Aside0.mk H
                  clear H
                  have p115 : 0 ≤ (x10_1 : Int) := of_decide_eq_true (by first | (with_reducible assumption) | assumption)
                  have q115 : x10_1 < (l0.length : Int) := of_decide_eq_true (by first | (with_reducible assumption) | assumption)
                  obtain ⟨ad115, e115, hx115_0⟩ := Kd.at_int HR0.out x10_1 p115 q115
                  cases e115
                  replace p115 := eq_true p115
                  replace q115 := eq_true q115
                  go_wp2
                  go_roundg k1
                  case measure => have := HK1.out; omega
                  case rel => exact ⟨(rd l0 x10_1), (wrap64 (x10_1 + 1)), (by first | rfl | (simp; done) | (simp [*]; done)), (by first | rfl | (simp; done) | (simp [*]; done)), H', ⟨by have := HK1.out; omega⟩, by repeat (first | exact Drawn0.refl _ | apply Drawn0.step)⟩
                · rw [if_neg c8] at H
                  have c8b0 : decide ((rd l0 x10_1) < x5_1) = false := decide_eq_false c8
                  clear c8
                  have H' := Aside0.mk H
                  clear H
                  have p115 : 0 ≤ (x10_1 : Int) := of_decide_eq_true (by first | (with_reducible assumption) | assumption)
                  have q115 : x10_1 < (l0.length : Int) := of_decide_eq_true (by first | (with_reducible assumption) | assumption)
                  obtain ⟨ad115, e115, hx115_0⟩ := Kd.at_int HR0.out x10_1 p115 q115
                  cases e115
                  replace p115 := eq_true p115
                  replace q115 := eq_true q115
                  go_wp2
                  go_roundg k1
                  case measure => have := HK1.out; omega
                  case rel => exact ⟨(x5_1), (wrap64 (x10_1 + 1)), (by first | rfl | (simp; done) | (simp [*]; done)), (by first | rfl | (simp; done) | (simp [*]; done)), H', ⟨by have := HK1.out; omega⟩, by repeat (first | exact Drawn0.refl _ | apply Drawn0.step)⟩
            · rw [if_neg c6] at H
              have c6b0 : decide (a1 ≤ (rd l0 x10_1)) = false := decide_eq_false c6
              clear c6
              have H' := Aside0.mk H
              clear H
              have p115 : 0 ≤ (x10_1 : Int) := of_decide_eq_true (by first | (with_reducible assumption) | assumption)
              have q115 : x10_1 < (l0.length : Int) := of_decide_eq_true (by first | (with_reducible assumption) | assumption)
              obtain ⟨ad115, e115, hx115_0⟩ := Kd.at_int HR0.out x10_1 p115 q115
              cases e115
              replace p115 := eq_true p115
              replace q115 := eq_true q115
              go_wp2
              go_roundg k1
              case measure => have := HK1.out; omega
              case rel => exact ⟨(x5_1), (wrap64 (x10_1 + 1)), (by first | rfl | (simp; done) | (simp [*]; done)), (by first | rfl | (simp; done) | (simp [*]; done)), H', ⟨by have := HK1.out; omega⟩, by repeat (first | exact Drawn0.refl _ | apply Drawn0.step)⟩
          · rw [if_neg c5] at H
            exact absurd H (by simp)
        · rw [if_neg c4] at H
          exact absurd H (by simp)
      · rw [if_neg c3] at H
        have c3b0 : decide (x10_1 < (l0.length : Int)) = false := decide_eq_false c3
        clear c3
        obtain rfl := Option.some.inj H
        go_wp2
        go_ret
        exact ⟨by first | rfl | (simp; done) | (simp [*]; done), by repeat (first | exact Drawn0.refl _ | apply Drawn0.step)⟩

/-! ### spec_idThreshold: function 22 -/
def spec_idThreshold.f (a0 : Int) (a1 : Int) : Option (Int) := some (mn (mx (wrap64 ((wrap64 (36 * a0)) - a1)) 1) 26)
set_option maxHeartbeats 8000000 in
set_option maxRecDepth 100000 in
theorem spec_idThreshold.calls (a0 : Int) (a1 : Int) (r : Int) (w : World) (h : spec_idThreshold.f a0 a1 = some r) :
    Calls Try.prog 22 #[.int .i64 a0, .int .i64 a1] w fun e w' => e = .returned (.int .i64 r) ∧ Below w.heap.size w w' := by
  have HB := Aside0.mk (Below.refl w.heap.size w)
  have H : (some (mn (mx (wrap64 ((wrap64 (36 * a0)) - a1)) 1) 26)) = some r := h
  clear h
  obtain ⟨ji3, hji3⟩ : ∃ j_ : Int, (mx (wrap64 ((wrap64 (36 * a0)) - a1)) 1) = j_ := ⟨_, rfl⟩
  replace H : (some (mn (ji3) 26)) = some r := by first | (rw [hji3] at H; exact H) | (simp only [hji3] at H ⊢; exact H)
  (try (have hji3l : 1 ≤ ji3 := by (rw [← hji3]; unfold mx; (repeat' split) <;> omega)))
  (try (have hji3m : 0 ≤ ji3 := by omega))
  have hji3_ : (if (wrap64 ((wrap64 (36 * a0)) - a1)) < 1 then 1 else (wrap64 ((wrap64 (36 * a0)) - a1))) = ji3 := hji3
  obtain ⟨ji4, hji4⟩ : ∃ j_ : Int, (mn (ji3) 26) = j_ := ⟨_, rfl⟩
  replace H : (some ji4) = some r := by first | (rw [hji4] at H; exact H) | (simp only [hji4] at H ⊢; exact H)
  have hji4_ : (if 26 < (ji3) then 26 else (ji3)) = ji4 := hji4
  obtain rfl := Option.some.inj H
  go_enter Try.func22, Try.ntmps22
  go_wp2
  go_ret
  exact ⟨by first | rfl | (simp [errW_none, errW_some] <;> rfl) | (simp only [← hji3, ← hji4]; first | rfl | (simp [errW_none, errW_some] <;> rfl)) | (simp [*, errW_none, errW_some] <;> rfl), by repeat (first | (with_reducible first | exact HB.out | apply below_alloc | apply pw_below_drewN | apply below_drew1) | exact HB.out)⟩

/-! ### spec_idLetter: function 26 -/
def spec_idLetter.f (a0 : Int) : Option (ByteArray) := if 0 ≤ a0 then (if a0 ≤ (wrap64 (a0 + 1)) then (if (wrap64 (a0 + 1)) ≤ 36 then (some ((⟨#[97, 98, 99, 100, 101, 102, 103, 104, 105, 106, 107, 108, 109, 110, 111, 112, 113, 114, 115, 116, 117, 118, 119, 120, 121, 122, 48, 49, 50, 51, 52, 53, 54, 55, 56, 57]⟩ : ByteArray).extract (a0 : Int).toNat ((wrap64 (a0 + 1)) : Int).toNat)) else (none)) else (none)) else (none)
set_option maxHeartbeats 8000000 in
set_option maxRecDepth 100000 in
theorem spec_idLetter.calls (a0 : Int) (r : ByteArray) (w : World) (h : spec_idLetter.f a0 = some r) :
    Calls Try.prog 26 #[.int .i64 a0] w fun e w' => e = .returned (.string r) ∧ Drawn0 w w' := by
  have H : (if 0 ≤ a0 then (if a0 ≤ (wrap64 (a0 + 1)) then (if (wrap64 (a0 + 1)) ≤ 36 then (some ((⟨#[97, 98, 99, 100, 101, 102, 103, 104, 105, 106, 107, 108, 109, 110, 111, 112, 113, 114, 115, 116, 117, 118, 119, 120, 121, 122, 48, 49, 50, 51, 52, 53, 54, 55, 56, 57]⟩ : ByteArray).extract (a0 : Int).toNat ((wrap64 (a0 + 1)) : Int).toNat)) else (none)) else (none)) else (none)) = some r := h
  clear h
  by_cases c2 : 0 ≤ a0
  · rw [if_pos c2] at H
    have c2b0 := eq_true c2
    have c2b1 : decide (0 ≤ a0) = true := decide_eq_true c2
    clear c2
    by_cases c3 : a0 ≤ (wrap64 (a0 + 1))
    · rw [if_pos c3] at H
      have c3b0 := eq_true c3
      have c3b1 : decide (a0 ≤ (wrap64 (a0 + 1))) = true := decide_eq_true c3
      by_cases c4 : (wrap64 (a0 + 1)) ≤ 36
      · rw [if_pos c4] at H
        have c4b0 := eq_true c4
        have c4b1 : decide ((wrap64 (a0 + 1)) ≤ 36) = true := decide_eq_true c4
        obtain rfl := Option.some.inj H
        go_enter Try.func26, Try.ntmps26
        go_wp2
        go_ret
        exact ⟨by first | rfl | (simp; done) | (simp [*]; done), by repeat (first | exact Drawn0.refl _ | apply Drawn0.step)⟩
      · rw [if_neg c4] at H
        exact absurd H (by simp)
    · rw [if_neg c3] at H
      exact absurd H (by simp)
  · rw [if_neg c2] at H
    exact absurd H (by simp)

/-! ### spec_idDelta: function 20 -/
def spec_idDelta.l0 : Nat → Int → Int → ByteArray → Int → Option (ByteArray)
  | 0, _, _, _, _ => none
  | k + 1, x0, x1, x5, x6 => (spec_idThreshold.f x6 x1).bind fun t116 => (if x0 < t116 then ((spec_idLetter.f x0).bind fun t117 => (if x5.size + t117.size ≤ 9223372036854775807 then (some (x5 ++ t117)) else (none))) else (if (wrap64 (36 - t116)) = 0 then (none) else ((spec_idLetter.f (wrap64 (t116 + (Int.tmod (wrap64 (x0 - t116)) (wrap64 (36 - t116)))))).bind fun t118 => (if x5.size + t118.size ≤ 9223372036854775807 then (spec_idDelta.l0 k (wrap64 (Int.tdiv (wrap64 (x0 - t116)) (wrap64 (36 - t116)))) x1 (x5 ++ t118) (wrap64 (x6 + 1))) else (none)))))
def spec_idDelta.f (k : Nat) (a0 : Int) (a1 : Int) : Option (ByteArray) := spec_idDelta.l0 k a0 a1 (⟨#[]⟩ : ByteArray) 1
theorem spec_idDelta.mono_l : ∀ k, (∀ y0 y1 y2 y3, LeO (spec_idDelta.l0 k y0 y1 y2 y3) (spec_idDelta.l0 (k + 1) y0 y1 y2 y3))
  | 0 => fun _ _ _ _ r h => by simp [spec_idDelta.l0] at h
  | k + 1 => by
    have ih0 := spec_idDelta.mono_l k
    · intro y0 y1 y2 y3
      unfold spec_idDelta.l0
      repeat' first
      | (with_reducible exact ih0 _ _ _ _)
      | (with_reducible exact LeO.refl _)
      | (with_reducible exact LeO.none _)
      | (with_reducible refine LeO.ite ?_ ?_)
      | (with_reducible refine LeO.bind ?_ (fun _ => ?_))
      | exact ih0 _ _ _ _
      | exact LeO.none _
      | refine LeO.ite ?_ ?_
      | refine LeO.bind ?_ (fun _ => ?_)
theorem spec_idDelta.mono : ∀ a0 a1 k, LeO (spec_idDelta.f k a0 a1) (spec_idDelta.f (k + 1) a0 a1) := by
  intro a0 a1 k
  have ih0 := spec_idDelta.mono_l k
  unfold spec_idDelta.f
  repeat' first
      | (with_reducible exact ih0 _ _ _ _)
      | (with_reducible exact LeO.refl _)
      | (with_reducible exact LeO.none _)
      | (with_reducible refine LeO.ite ?_ ?_)
      | (with_reducible refine LeO.bind ?_ (fun _ => ?_))
      | exact ih0 _ _ _ _
      | exact LeO.none _
      | refine LeO.ite ?_ ?_
      | refine LeO.bind ?_ (fun _ => ?_)
set_option maxHeartbeats 8000000 in
set_option maxRecDepth 100000 in
theorem spec_idDelta.calls (k : Nat) (a0 : Int) (a1 : Int) (r : ByteArray) (w : World) (h : spec_idDelta.f k a0 a1 = some r) :
    Calls Try.prog 20 #[.int .i64 a0, .int .i64 a1] w fun e w' => e = .returned (.string r) ∧ Below w.heap.size w w' := by
  have HB := Aside0.mk (Below.refl w.heap.size w)
  have H : (spec_idDelta.l0 k a0 a1 (⟨#[]⟩ : ByteArray) 1) = some r := h
  clear h
  have H' := Aside0.mk H
  clear H
  go_enter Try.func20, Try.ntmps20
  go_wp2
  go_loopg [0, 5, 6] k (fun kq v0 v5 v6 w' => ∃ (x0_1 : Int) (x5_1 : ByteArray) (x6_1 : Int), v0 = .int .i64 x0_1 ∧ v5 = .string x5_1 ∧ v6 = .int .i64 x6_1 ∧ Aside0 (spec_idDelta.l0 kq x0_1 a1 x5_1 x6_1 = some r) ∧ Aside0 (kq ≤ k) ∧ Aside0 (Below w.heap.size w w'))
  case atStart => exact ⟨(a0), ((⟨#[]⟩ : ByteArray)), (1), (by first | rfl | (simp; done) | (simp [*]; done)), (by first | rfl | (simp; done) | (simp [*]; done)), (by first | rfl | (simp; done) | (simp [*]; done)), H', ⟨Nat.le_refl _⟩, ⟨by repeat (first | (with_reducible first | exact HB.out | apply below_alloc | apply pw_below_drewN | apply below_drew1) | exact HB.out)⟩⟩
  case round =>
    clear H'
    try clear c2
    try clear p2
    obtain ⟨x0_1, x5_1, x6_1, rfl, rfl, rfl, HA, HK1, HB⟩ := hrel
    cases gk with
    | zero => exact absurd HA.out (by simp [spec_idDelta.l0])
    | succ k1 =>
      have H := HA.out
      clear HA
      simp only [spec_idDelta.l0] at H
      replace H := Option.bind_eq_some_iff.mp H
      obtain ⟨t116, A30, H⟩ := H
      replace H : (if x0_1 < t116 then ((spec_idLetter.f x0_1).bind fun t117 => (if x5_1.size + t117.size ≤ 9223372036854775807 then (some (x5_1 ++ t117)) else (none))) else (if (wrap64 (36 - t116)) = 0 then (none) else ((spec_idLetter.f (wrap64 (t116 + (Int.tmod (wrap64 (x0_1 - t116)) (wrap64 (36 - t116)))))).bind fun t118 => (if x5_1.size + t118.size ≤ 9223372036854775807 then (spec_idDelta.l0 k1 (wrap64 (Int.tdiv (wrap64 (x0_1 - t116)) (wrap64 (36 - t116)))) a1 (x5_1 ++ t118) (wrap64 (x6_1 + 1))) else (none))))) = some r := H
      have A3 := Aside0.mk A30
      clear A30
      by_cases c4 : x0_1 < t116
      · rw [if_pos c4] at H
        have c4b0 : decide (x0_1 < t116) = true := decide_eq_true c4
        clear c4
        replace H := Option.bind_eq_some_iff.mp H
        obtain ⟨t117, A50, H⟩ := H
        replace H : (if x5_1.size + t117.size ≤ 9223372036854775807 then (some (x5_1 ++ t117)) else (none)) = some r := H
        have A5 := Aside0.mk A50
        clear A50
        by_cases c6 : x5_1.size + t117.size ≤ 9223372036854775807
        · rw [if_pos c6] at H
          have c6b0 := eq_true c6
          have c6b1 : decide (x5_1.size + t117.size ≤ 9223372036854775807) = true := decide_eq_true c6
          try have c6b2 : (9223372036854775807 < x5_1.size + t117.size) = False := eq_false (Nat.not_lt.2 c6)
          obtain rfl := Option.some.inj H
          go_wp2_with (first | ((with_reducible refine gate_callee (f := 22) rfl ?_); refine goesL_ (some 12) rfl rfl Try.func22 (by kernel_rfl) rfl #[.int .i64 x6_1, .int .i64 a1] rfl (by (try simp only [List.map_toArray, List.map_cons, List.map_nil]); first | done | rfl | (simp only [List.length_drop, List.length_take]; rfl)) ?_; (with_reducible refine (spec_idThreshold.calls x6_1 a1 t116 _ A3.out).mono ?_); rintro e w7 ⟨rfl, hb⟩; refine ⟨_, rfl, ?_⟩; have n0_ := Aside0.mk (below_step (by repeat (first | (with_reducible first | exact HB.out | apply below_alloc | apply pw_below_drewN | apply below_drew1) | exact HB.out)) hb); clear HB; have HB := n0_; clear n0_; (try clear hb); (try clear hb2); (try clear hk); (try clear hi)) | ((with_reducible refine gate_callee (f := 26) rfl ?_); refine goesL_ (some 18) rfl rfl Try.func26 (by kernel_rfl) rfl #[.int .i64 x0_1] rfl (by (try simp only [List.map_toArray, List.map_cons, List.map_nil]); first | done | rfl | (simp only [List.length_drop, List.length_take]; rfl)) ?_; (with_reducible refine (spec_idLetter.calls x0_1 t117 _ A5.out).mono ?_); rintro e w' ⟨rfl, ⟨nd, rfl⟩⟩; refine ⟨_, rfl, ?_⟩))
          go_ret
          exact ⟨by first | rfl | (simp [errW_none, errW_some] <;> rfl) | (simp [*, errW_none, errW_some] <;> rfl), by repeat (first | (with_reducible first | exact HB.out | apply below_alloc | apply pw_below_drewN | apply below_drew1) | exact HB.out)⟩
        · rw [if_neg c6] at H
          exact absurd H (by simp)
      · rw [if_neg c4] at H
        have c4b0 : decide (x0_1 < t116) = false := decide_eq_false c4
        clear c4
        by_cases c8 : (wrap64 (36 - t116)) = 0
        · rw [if_pos c8] at H
          exact absurd H (by simp)
        · rw [if_neg c8] at H
          have c8b0 : ((wrap64 (36 - t116)) == 0) = false := beq_eq_false_iff_ne.mpr c8
          have c8b1 : ((wrap64 (36 - t116)) != 0) = true := bne_iff_ne.mpr c8
          replace H := Option.bind_eq_some_iff.mp H
          obtain ⟨t118, A90, H⟩ := H
          replace H : (if x5_1.size + t118.size ≤ 9223372036854775807 then (spec_idDelta.l0 k1 (wrap64 (Int.tdiv (wrap64 (x0_1 - t116)) (wrap64 (36 - t116)))) a1 (x5_1 ++ t118) (wrap64 (x6_1 + 1))) else (none)) = some r := H
          have A9 := Aside0.mk A90
          clear A90
          by_cases c10 : x5_1.size + t118.size ≤ 9223372036854775807
          · rw [if_pos c10] at H
            have c10b0 := eq_true c10
            have c10b1 : decide (x5_1.size + t118.size ≤ 9223372036854775807) = true := decide_eq_true c10
            try have c10b2 : (9223372036854775807 < x5_1.size + t118.size) = False := eq_false (Nat.not_lt.2 c10)
            have H' := Aside0.mk H
            clear H
            go_wp2_with (first | ((with_reducible refine gate_callee (f := 22) rfl ?_); refine goesL_ (some 12) rfl rfl Try.func22 (by kernel_rfl) rfl #[.int .i64 x6_1, .int .i64 a1] rfl (by (try simp only [List.map_toArray, List.map_cons, List.map_nil]); first | done | rfl | (simp only [List.length_drop, List.length_take]; rfl)) ?_; (with_reducible refine (spec_idThreshold.calls x6_1 a1 t116 _ A3.out).mono ?_); rintro e w11 ⟨rfl, hb⟩; refine ⟨_, rfl, ?_⟩; have n0_ := Aside0.mk (below_step (by repeat (first | (with_reducible first | exact HB.out | apply below_alloc | apply pw_below_drewN | apply below_drew1) | exact HB.out)) hb); clear HB; have HB := n0_; clear n0_; (try clear hb); (try clear hb2); (try clear hk); (try clear hi)) | ((with_reducible refine gate_callee (f := 26) rfl ?_); refine goesL_ (some 29) rfl rfl Try.func26 (by kernel_rfl) rfl #[.int .i64 (wrap64 (t116 + (Int.tmod (wrap64 (x0_1 - t116)) (wrap64 (36 - t116)))))] rfl (by (try simp only [List.map_toArray, List.map_cons, List.map_nil]); first | done | rfl | (simp only [List.length_drop, List.length_take]; rfl)) ?_; (with_reducible refine (spec_idLetter.calls (wrap64 (t116 + (Int.tmod (wrap64 (x0_1 - t116)) (wrap64 (36 - t116))))) t118 _ A9.out).mono ?_); rintro e w' ⟨rfl, ⟨nd, rfl⟩⟩; refine ⟨_, rfl, ?_⟩))
            go_roundg k1
            case measure => have := HK1.out; omega
            case rel => exact ⟨(wrap64 (Int.tdiv (wrap64 (x0_1 - t116)) (wrap64 (36 - t116)))), (x5_1 ++ t118), (wrap64 (x6_1 + 1)), (by first | rfl | (simp; done) | (simp [*]; done)), (by first | rfl | (simp; done) | (simp [*]; done)), (by first | rfl | (simp; done) | (simp [*]; done)), H', ⟨by have := HK1.out; omega⟩, ⟨by repeat (first | (with_reducible first | exact HB.out | apply below_alloc | apply pw_below_drewN | apply below_drew1) | exact HB.out)⟩⟩
          · rw [if_neg c10] at H
            exact absurd H (by simp)

-- NOT PRINTED: function 12 (spec_IdPunycode)

-- NOT PRINTED: function 13 (spec_AnString)

-- NOT PRINTED: function 4 (laws_FnPunycodeMade)

end Go.Proofs.Yteeodkmhelmedaa.PFnPunycodeMade
