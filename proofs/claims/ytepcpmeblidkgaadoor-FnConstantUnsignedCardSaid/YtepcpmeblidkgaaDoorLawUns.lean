/- FnConstantUnsigned and FnConstantChar: the walks. -/
import Derived.Test.YtepcpmeblidkgaaDoorRight
import Derived.Deep.RegionWith
namespace Go.Proofs.YtepcpmeblidkgaaDoor
open Go.RowKit Go.Lib
set_option linter.unusedVariables false
set_option maxRecDepth 100000
attribute [local go_sem] bs_size bs_toList

theorem u_one (d : UInt8) (V : World) (b : Nat) (hc : V.cell? ⟨b, 0, none⟩ = some (.int .u8 (d.toNat : Int))) : (convert 22 9 (.slice (some ⟨b, 0, none⟩) 1 1)).run Tryd.prog V = .ok (.string (bs [d])) V := by
  refine Bytes.convert (P := Tryd.prog) (A := some ⟨b, 0, none⟩) (n := 1) (l := [d]) ⟨rfl, .inr ⟨_, 0, rfl, World.block_lt_of_cell? V _ hc, fun j hj => ?_⟩⟩ 1 Tryd.underlying22 Tryd.underlying5 Tryd.underlying9
  have hj0 : j = 0 := by simp at hj; omega
  subst hj0
  exact hc
theorem u_heap (W : World) (m : Nat) : (W.drewN m).heap = W.heap := by
  induction m generalizing W with
  | zero => rfl
  | succ m ih => exact ih W.drew
theorem u_new1 (W : World) (m : Nat) (x : Int) : ((W.drewN m).alloc (.cells #[.int .u8 x] 5)).cell? ⟨W.heap.size, 0, none⟩ = some (.int .u8 x) := by
  have := (Blk.new (W.drewN m) 5 #[Value.int .u8 x]).cell 0
  rw [u_heap] at this
  exact this
theorem u_new2 (W : World) (m : Nat) (x : Int) : ((W.alloc (.cells #[.int .u8 x] 5)).drewN m).cell? ⟨W.heap.size, 0, none⟩ = some (.int .u8 x) := by
  have := (Blk.new W 5 #[Value.int .u8 x]).cell 0
  unfold World.cell? at this ⊢
  rw [u_heap]
  exact this

set_option maxHeartbeats 4000000 in
theorem unsigned_no (w : World) (i : Int) (c : UInt8) (HU : ∀ W : World, Calls Tryd.prog 29 #[.int .i64 i] W fun e w' => e = .returned (.int .u8 (c.toNat : Int)) ∧ W = w') (n : Nat) (hn : n ≤ 18446744073709551615) (l : List UInt8) (hz : ¬ 2147483647 < l.length)
    (HR : ∀ W : World, Calls Tryd.prog 37 #[numV (c.toNat : Int) (n : Int)] W fun e w' => e = .returned (.bool false) ∧ Below W.heap.size W w') :
    Calls Tryd.prog 13 #[.int .i64 i, .int .u64 (n : Int), .string (bs l)] w fun e w' => e = .returned (.bool true) ∧ Below w.heap.size w w' := by
  have hz' : decide ((2147483647:Int) < (l.length : Int)) = false := decide_eq_false (by omega)
  have HU' := Lib.hid HU
  have HR' := Lib.hid HR
  unfold numV at HR'
  clear HU HR hz
  go_enter Tryd.func13, Tryd.ntmps13
  go_wp2_with (go_at_call 29; refine (HU'.out _).mono ?_; rintro e w2 ⟨rfl, rfl⟩)
  refine wp_region_any (by kernel_rfl) ?_
  change wpAny _ _ _ _ _ _ _ (World.drew _)
  refine wpAny_ready (rs := [0]) (by kernel_rfl) (by simp) (AllReady.cons rfl (fun K hK => ?_) AllReady.nil)
  go_simp
  refine hK _ _ ?_
  clear hK K
  refine wpAny_ready (rs := [1]) (by kernel_rfl) (by simp) (AllReady.cons rfl (fun K hK => ?_) AllReady.nil)
  go_simp
  go_wp2_with (go_at_call 37; refine (HR'.out _).mono ?_; rintro e w3 ⟨rfl, hb3⟩)
  refine wpAny_take (i := 2) (v := ?_) rfl (by kernel_rfl) (by kernel_rfl) (by kernel_rfl) (fun _ _ _ h => h) (Or.inl ⟨by kernel_rfl, ?_⟩) ?_
  rotate_left
  · intro w
    go_simp
    try with_reducible rfl
  refine wpAny_take (i := 3) (v := ?_) rfl (by kernel_rfl) (by kernel_rfl) (by kernel_rfl) (fun _ _ _ h => h) (Or.inl ⟨by kernel_rfl, ?_⟩) ?_
  rotate_left
  · intro w
    go_simp
    try with_reducible rfl
  refine wpAny_take (i := 4) (v := undef) rfl (by kernel_rfl) (by kernel_rfl) (by kernel_rfl) (fun _ _ _ h => h) (Or.inr ⟨by kernel_rfl, rfl⟩) ?_
  go_simp
  refine wpAny_take (i := 5) (v := undef) rfl (by kernel_rfl) (by kernel_rfl) (by kernel_rfl) (fun _ _ _ h => h) (Or.inr ⟨by kernel_rfl, rfl⟩) ?_
  go_simp
  refine wpAny_take (i := 6) (v := undef) rfl (by kernel_rfl) (by kernel_rfl) (by kernel_rfl) (fun _ _ _ h => h) (Or.inr ⟨by kernel_rfl, rfl⟩) ?_
  go_simp
  refine wpAny_take (i := 7) (v := undef) rfl (by kernel_rfl) (by kernel_rfl) (by kernel_rfl) (fun _ _ _ h => h) (Or.inr ⟨by kernel_rfl, rfl⟩) ?_
  go_simp
  refine wpAny_take (i := 8) (v := undef) rfl (by kernel_rfl) (by kernel_rfl) (by kernel_rfl) (fun _ _ _ h => h) (Or.inr ⟨by kernel_rfl, rfl⟩) ?_
  go_simp
  refine wpAny_take (i := 9) (v := undef) rfl (by kernel_rfl) (by kernel_rfl) (by kernel_rfl) (fun _ _ _ h => h) (Or.inr ⟨by kernel_rfl, rfl⟩) ?_
  go_simp
  refine wpAny_take (i := 10) (v := undef) rfl (by kernel_rfl) (by kernel_rfl) (by kernel_rfl) (fun _ _ _ h => h) (Or.inr ⟨by kernel_rfl, rfl⟩) ?_
  go_simp
  refine wpAny_take (i := 11) (v := undef) rfl (by kernel_rfl) (by kernel_rfl) (by kernel_rfl) (fun _ _ _ h => h) (Or.inr ⟨by kernel_rfl, rfl⟩) ?_
  go_simp
  refine wpAny_take (i := 12) (v := undef) rfl (by kernel_rfl) (by kernel_rfl) (by kernel_rfl) (fun _ _ _ h => h) (Or.inr ⟨by kernel_rfl, rfl⟩) ?_
  go_simp
  refine wpAny_take (i := 13) (v := undef) rfl (by kernel_rfl) (by kernel_rfl) (by kernel_rfl) (fun _ _ _ h => h) (Or.inr ⟨by kernel_rfl, rfl⟩) ?_
  go_simp
  refine wpAny_take (i := 14) (v := undef) rfl (by kernel_rfl) (by kernel_rfl) (by kernel_rfl) (fun _ _ _ h => h) (Or.inr ⟨by kernel_rfl, rfl⟩) ?_
  go_simp
  refine wpAny_take (i := 15) (v := undef) rfl (by kernel_rfl) (by kernel_rfl) (by kernel_rfl) (fun _ _ _ h => h) (Or.inr ⟨by kernel_rfl, rfl⟩) ?_
  go_simp
  refine wpAny_take (i := 16) (v := ?_) rfl (by kernel_rfl) (by kernel_rfl) (by kernel_rfl) (fun _ _ _ h => h) (Or.inl ⟨by kernel_rfl, ?_⟩) ?_
  rotate_left
  · intro w
    go_simp
    try with_reducible rfl
  refine wpAny_take (i := 17) (v := ?_) rfl (by kernel_rfl) (by kernel_rfl) (by kernel_rfl) (fun _ _ _ h => h) (Or.inl ⟨by kernel_rfl, ?_⟩) ?_
  rotate_left
  · intro w
    go_simp
    try with_reducible rfl
  refine wpAny_done (by kernel_rfl) ?_ _
  go_wp2
  go_ret
  exact ⟨rfl, Below.trans (by repeat (first | exact Below.refl _ _ | refine Below.drew ?_ | refine below_drewN ?_ _ | refine Below.alloc ?_ (by first | exact Nat.le_refl _ | (simp only [World.size_alloc]; omega)) _)) (hb3.mono (by simp))⟩

set_option maxHeartbeats 8000000 in
theorem unsigned_yes (w : World) (hP : Pow w w.heap.size) (i : Int) (c : UInt8) (HU : ∀ W : World, Calls Tryd.prog 29 #[.int .i64 i] W fun e w' => e = .returned (.int .u8 (c.toNat : Int)) ∧ W = w') (hc1 : c ∈ kindLetters) (hc2 : kindOf c = 2) (n : Nat) (hn : n ≤ 18446744073709551615) (l : List UInt8) (hz : ¬ 2147483647 < l.length)
    (HR : ∀ W : World, Calls Tryd.prog 37 #[numV (c.toNat : Int) (n : Int)] W fun e w' => e = .returned (.bool true) ∧ Below W.heap.size W w') :
    Calls Tryd.prog 13 #[.int .i64 i, .int .u64 (n : Int), .string (bs l)] w fun e w' => e = .returned (.bool true) ∧ Below w.heap.size w w' := by
  have hz' : decide ((2147483647:Int) < (l.length : Int)) = false := decide_eq_false (by omega)
  have HU' := Lib.hid HU
  have HR' := Lib.hid HR
  unfold numV at HR'
  have hx64 := hexL_64 n hn
  have HX := Lib.hid (fun W : World => hex_any n hn W)
  have HD := Lib.hid (fun W : World => rustDecimal_any n hn W)
  have hr := reads_uns hc1 hc2 hn l
  generalize hexL n = Hx at *
  generalize decDigits n = Dx at *
  obtain ⟨S1, hS1⟩ : ∃ S, c :: Hx = S := ⟨_, rfl⟩
  obtain ⟨S2, hS2⟩ : ∃ S, S1 ++ [95] = S := ⟨_, rfl⟩
  have e3 : c :: (Hx ++ 95 :: l) = S2 ++ l := by rw [← hS2, ← hS1]; simp
  have n1 : S1.length = Hx.length + 1 := by rw [← hS1]; simp
  have n2 : S2.length = S1.length + 1 := by rw [← hS2]; simp
  rw [e3] at hr
  have a1 : ∀ W, (Op.stringOp .add (bs [c]) (bs Hx)).run Tryd.prog W = .ok (.string (bs S1)) W := by rw [← hS1]; exact add_bs [c] _ (by simp; omega)
  have a2 : ∀ W, (Op.stringOp .add (bs S1) ⟨#[95]⟩).run Tryd.prog W = .ok (.string (bs S2)) W := by rw [← hS2]; exact add_bs S1 [95] (by simp; omega)
  have HI := Lib.hid (fun (W : World) (hb : Below w.heap.size w W) => (constIs_yes (w := W) (c := S2) (l := l) (o := Dx) ((hP.keep hb (Nat.le_refl _)).up hb.size (Nat.le_refl _)) (by omega) hr).mono fun e w' h => (show e = .returned (.bool true) ∧ Below w.heap.size w w' from ⟨h.1, hb.trans (h.2.mono hb.size)⟩))
  have hcu := u_one c
  have hn1 := u_new1
  have hn2 := u_new2
  have HC := Lib.hid (show (w.alloc (.cells #[.int .i64 20, .int .u8 (c.toNat : Int), .string ⟨#[]⟩, .int .u64 (n : Int), .bool false, .slice none 0 0] 65)).cell? ⟨w.heap.size, 1, none⟩ = some (.int .u8 (c.toNat : Int)) from (Blk.new w 65 #[.int .i64 20, .int .u8 (c.toNat : Int), .string ⟨#[]⟩, .int .u64 (n : Int), .bool false, .slice none 0 0]).cell 1)
  clear HU HR hz hP hr e3 n1 n2 hS1 hS2 hx64 hc1 hc2
  go_enter Tryd.func13, Tryd.ntmps13
  go_wp2_with (go_at_call 29; refine (HU'.out _).mono ?_; rintro e w2 ⟨rfl, rfl⟩)
  go_region_with (first
    | (go_at_call 37; refine (HR'.out _).mono ?_; rintro e w3 ⟨rfl, hb3⟩; have hq3 : w3.cell? ⟨w.heap.size, 1, none⟩ = some (.int .u8 (c.toNat : Int)) := (hb3.cell (p := ⟨w.heap.size, 1, none⟩) (by simp)).trans HC.out; have hb3w : Below w.heap.size w w3 := Below.trans (by repeat (first | exact Below.refl _ _ | refine Below.drew ?_ | refine below_drewN ?_ _ | refine Below.alloc ?_ (by first | exact Nat.le_refl _ | (simp only [World.size_alloc]; omega)) _)) (hb3.mono (by simp)))
    | (go_at_call 30; refine (HX.out _).mono ?_; rintro e w4 ⟨rfl, m, rfl⟩)
    | (go_at_call 34; refine (HD.out _).mono ?_; rintro e w5 ⟨rfl, hb5⟩; have hb35 : Below w3.heap.size w3 w5 := Below.trans (by repeat (first | exact Below.refl _ _ | refine Below.drew ?_ | refine below_drewN ?_ _ | refine Below.alloc ?_ (by first | exact Nat.le_refl _ | (simp; done) | (simp; omega)) _)) (hb5.mono (by first | exact Nat.le_refl _ | (simp; done) | (simp; omega))); have hq5 : w5.cell? ⟨w.heap.size, 1, none⟩ = some (.int .u8 (c.toNat : Int)) := (hb35.cell (p := ⟨w.heap.size, 1, none⟩) (World.block_lt_of_cell? _ _ hq3)).trans hq3; have hc5 := hb5.cell (p := ⟨w3.heap.size, 0, none⟩); have hb5w : Below w.heap.size w w5 := hb3w.trans (hb35.mono hb3w.size))
    | (go_at_call 31; refine (HI.out _ (by repeat (first | exact hb5w | exact hb3w | refine Below.drew ?_ | refine below_drewN ?_ _ | refine Below.alloc ?_ (by first | exact hb5w.size | exact hb3w.size | (simp; done) | (simp; omega)) _))).mono ?_; rintro e w6 ⟨rfl, hb6⟩))
  all_goals
    go_wp2
    go_ret
    exact ⟨rfl, hb6⟩

theorem kindOf_u {k : Nat} (hk : k = 0 ∨ k = 1 ∨ k = 2 ∨ k = 3 ∨ k = 4 ∨ k = 5) : uLetter k ≠ 98 ∧ uLetter k ≠ 99 ∧ (bitsOf (uLetter k)).1 ≠ 0 ∧ (bitsOf (uLetter k)).2 = false := by
  rcases hk with rfl | rfl | rfl | rfl | rfl | rfl <;> decide
theorem constUnsigned_walk (w : World) (hP : Pow w w.heap.size) (i : Int) (hi : (Lit.int .i64 i).wf = true) (n : Nat) (hn : n ≤ 18446744073709551615) (l : List UInt8) (hl : l.length ≤ maxLen) :
    Calls Tryd.prog 13 #[.int .i64 i, .int .u64 (n : Int), .string (bs l)] w fun e w' => e = .returned (.bool true) ∧ Below w.heap.size w w' := by
  by_cases hz : 2147483647 < l.length
  · go_enter Tryd.func13, Tryd.ntmps13
    go_wp2_with fail
    go_ret
    exact ⟨rfl, Below.refl _ _⟩
  · obtain ⟨k, hk, h⟩ := six hi
    obtain ⟨t1, t2, _, _⟩ := letters6 hk
    obtain ⟨f1, f2, f3, f4⟩ := kindOf_u hk
    have HU := fun W : World => (RustUnsigned_any hk h W).mono fun e w' h => (show e = .returned (.int .u8 ((uLetter k).toNat : Int)) ∧ W = w' from ⟨h.1, h.2.symm⟩)
    have HR : NumSays ((uLetter k).toNat : Int) (n : Int) (numR (uLetter k) n) := fun W => isNumU_any f1 f2 f3 f4 n W
    cases hR : numR (uLetter k) n with
    | true => exact unsigned_yes w hP i _ HU t1 t2 n hn l hz (fun W => by rw [hR] at HR; exact right_num HR W)
    | false => exact unsigned_no w i _ HU n hn l hz (fun W => by rw [hR] at HR; exact right_num HR W)
end Go.Proofs.YtepcpmeblidkgaaDoor
