/- FnConstantChar: the walk. -/
import Derived.Test.YtepcpmeblidkgaaDoorRight
import Derived.Deep.RegionWith
namespace Go.Proofs.YtepcpmeblidkgaaDoor
open Go.RowKit Go.Lib
set_option linter.unusedVariables false
set_option maxRecDepth 100000
attribute [local go_sem] bs_size bs_toList

theorem c_one (d : UInt8) (V : World) (b : Nat) (hc : V.cell? ⟨b, 0, none⟩ = some (.int .u8 (d.toNat : Int))) : (convert 22 9 (.slice (some ⟨b, 0, none⟩) 1 1)).run Tryd.prog V = .ok (.string (bs [d])) V := by
  refine Bytes.convert (P := Tryd.prog) (A := some ⟨b, 0, none⟩) (n := 1) (l := [d]) ⟨rfl, .inr ⟨_, 0, rfl, World.block_lt_of_cell? V _ hc, fun j hj => ?_⟩⟩ 1 Tryd.underlying22 Tryd.underlying5 Tryd.underlying9
  have hj0 : j = 0 := by simp at hj; omega
  subst hj0
  exact hc
theorem c_heap (W : World) (m : Nat) : (W.drewN m).heap = W.heap := by
  induction m generalizing W with
  | zero => rfl
  | succ m ih => exact ih W.drew
theorem c_new1 (W : World) (m : Nat) (x : Int) : ((W.drewN m).alloc (.cells #[.int .u8 x] 5)).cell? ⟨W.heap.size, 0, none⟩ = some (.int .u8 x) := by
  have := (Blk.new (W.drewN m) 5 #[Value.int .u8 x]).cell 0
  rw [c_heap] at this
  exact this
theorem c_new2 (W : World) (m : Nat) (x : Int) : ((W.alloc (.cells #[.int .u8 x] 5)).drewN m).cell? ⟨W.heap.size, 0, none⟩ = some (.int .u8 x) := by
  have := (Blk.new W 5 #[Value.int .u8 x]).cell 0
  unfold World.cell? at this ⊢
  rw [c_heap]
  exact this

theorem wrap_c64 (c : UInt8) : IntKind.u64.wrap (c.toNat : Int) = (c.toNat : Int) := IntWalk.u64_in _ (by have := c.toNat_lt; constructor <;> omega)
set_option maxHeartbeats 4000000 in
theorem char_no (w : World) (c : UInt8) (l : List UInt8) (hz : ¬ 2147483647 < l.length)
    (HR : ∀ W : World, Calls Tryd.prog 37 #[numV 99 (c.toNat : Int)] W fun e w' => e = .returned (.bool false) ∧ Below W.heap.size W w') :
    Calls Tryd.prog 12 #[.int .u8 (c.toNat : Int), .string (bs l)] w fun e w' => e = .returned (.bool true) ∧ Below w.heap.size w w' := by
  have hz' : decide ((2147483647:Int) < (l.length : Int)) = false := decide_eq_false (by omega)
  have hwr := wrap_c64 c
  have HR' := Lib.hid HR
  unfold numV at HR'
  clear HR hz
  go_enter Tryd.func12, Tryd.ntmps12
  go_wp2_with fail
  refine wp_region_any (by kernel_rfl) ?_
  change wpAny _ _ _ _ _ _ _ (World.drew _)
  refine wpAny_ready (rs := [0]) (by kernel_rfl) (by simp) (AllReady.cons rfl (fun K hK => ?_) AllReady.nil)
  go_simp
  refine hK _ _ ?_
  clear hK K
  refine wpAny_ready (rs := [1]) (by kernel_rfl) (by simp) (AllReady.cons rfl (fun K hK => ?_) AllReady.nil)
  go_simp
  go_wp2_with (go_at_call 37; refine (HR'.out _).mono ?_; rintro e w3 ⟨rfl, hb3⟩)
  refine wpAny_take (i := 2) (v := ?_) rfl (by kernel_rfl) (by kernel_rfl) (by kernel_rfl) (fun _ _ _ h => h) (Or.inl ⟨by kernel_rfl, ?_⟩) ?_
  rotate_left
  · intro w
    go_simp
    try with_reducible rfl
  refine wpAny_take (i := 3) (v := ?_) rfl (by kernel_rfl) (by kernel_rfl) (by kernel_rfl) (fun _ _ _ h => h) (Or.inl ⟨by kernel_rfl, ?_⟩) ?_
  rotate_left
  · intro w
    go_simp
    try with_reducible rfl
  refine wpAny_take (i := 4) (v := undef) rfl (by kernel_rfl) (by kernel_rfl) (by kernel_rfl) (fun _ _ _ h => h) (Or.inr ⟨by kernel_rfl, rfl⟩) ?_
  go_simp
  refine wpAny_take (i := 5) (v := undef) rfl (by kernel_rfl) (by kernel_rfl) (by kernel_rfl) (fun _ _ _ h => h) (Or.inr ⟨by kernel_rfl, rfl⟩) ?_
  go_simp
  refine wpAny_take (i := 6) (v := undef) rfl (by kernel_rfl) (by kernel_rfl) (by kernel_rfl) (fun _ _ _ h => h) (Or.inr ⟨by kernel_rfl, rfl⟩) ?_
  go_simp
  refine wpAny_take (i := 7) (v := undef) rfl (by kernel_rfl) (by kernel_rfl) (by kernel_rfl) (fun _ _ _ h => h) (Or.inr ⟨by kernel_rfl, rfl⟩) ?_
  go_simp
  refine wpAny_take (i := 8) (v := undef) rfl (by kernel_rfl) (by kernel_rfl) (by kernel_rfl) (fun _ _ _ h => h) (Or.inr ⟨by kernel_rfl, rfl⟩) ?_
  go_simp
  refine wpAny_take (i := 9) (v := undef) rfl (by kernel_rfl) (by kernel_rfl) (by kernel_rfl) (fun _ _ _ h => h) (Or.inr ⟨by kernel_rfl, rfl⟩) ?_
  go_simp
  refine wpAny_take (i := 10) (v := undef) rfl (by kernel_rfl) (by kernel_rfl) (by kernel_rfl) (fun _ _ _ h => h) (Or.inr ⟨by kernel_rfl, rfl⟩) ?_
  go_simp
  refine wpAny_take (i := 11) (v := undef) rfl (by kernel_rfl) (by kernel_rfl) (by kernel_rfl) (fun _ _ _ h => h) (Or.inr ⟨by kernel_rfl, rfl⟩) ?_
  go_simp
  refine wpAny_take (i := 12) (v := undef) rfl (by kernel_rfl) (by kernel_rfl) (by kernel_rfl) (fun _ _ _ h => h) (Or.inr ⟨by kernel_rfl, rfl⟩) ?_
  go_simp
  refine wpAny_take (i := 13) (v := undef) rfl (by kernel_rfl) (by kernel_rfl) (by kernel_rfl) (fun _ _ _ h => h) (Or.inr ⟨by kernel_rfl, rfl⟩) ?_
  go_simp
  refine wpAny_take (i := 14) (v := undef) rfl (by kernel_rfl) (by kernel_rfl) (by kernel_rfl) (fun _ _ _ h => h) (Or.inr ⟨by kernel_rfl, rfl⟩) ?_
  go_simp
  refine wpAny_take (i := 15) (v := undef) rfl (by kernel_rfl) (by kernel_rfl) (by kernel_rfl) (fun _ _ _ h => h) (Or.inr ⟨by kernel_rfl, rfl⟩) ?_
  go_simp
  refine wpAny_take (i := 16) (v := ?_) rfl (by kernel_rfl) (by kernel_rfl) (by kernel_rfl) (fun _ _ _ h => h) (Or.inl ⟨by kernel_rfl, ?_⟩) ?_
  rotate_left
  · intro w
    go_simp
    try with_reducible rfl
  refine wpAny_take (i := 17) (v := ?_) rfl (by kernel_rfl) (by kernel_rfl) (by kernel_rfl) (fun _ _ _ h => h) (Or.inl ⟨by kernel_rfl, ?_⟩) ?_
  rotate_left
  · intro w
    go_simp
    try with_reducible rfl
  refine wpAny_done (by kernel_rfl) ?_ _
  go_wp2
  go_ret
  exact ⟨rfl, Below.trans (by repeat (first | exact Below.refl _ _ | refine Below.drew ?_ | refine below_drewN ?_ _ | refine Below.alloc ?_ (by first | exact Nat.le_refl _ | (simp only [World.size_alloc]; omega)) _)) (hb3.mono (by simp))⟩


set_option maxHeartbeats 8000000 in
theorem char_yes (w : World) (hP : Pow w w.heap.size) (c : UInt8) (l : List UInt8) (hz : ¬ 2147483647 < l.length) (hk : charOk c.toNat = true)
    (HR : ∀ W : World, Calls Tryd.prog 37 #[numV 99 (c.toNat : Int)] W fun e w' => e = .returned (.bool true) ∧ Below W.heap.size W w') :
    Calls Tryd.prog 12 #[.int .u8 (c.toNat : Int), .string (bs l)] w fun e w' => e = .returned (.bool true) ∧ Below w.heap.size w w' := by
  have hz' : decide ((2147483647:Int) < (l.length : Int)) = false := decide_eq_false (by omega)
  have hwr := wrap_c64 c
  have HR' := Lib.hid HR
  unfold numV at HR'
  have hn : c.toNat ≤ 18446744073709551615 := by have := c.toNat_lt; omega
  have hx64 := hexL_64 c.toNat hn
  have HX := Lib.hid (fun W : World => hex_any c.toNat hn W)
  obtain ⟨k1, k2, k3, _, k4⟩ := of_decide_eq_true hk
  have hr := reads_char k1 k2 k3 k4 l
  rw [show UInt8.ofNat c.toNat = c by simp] at hr
  generalize hexL c.toNat = Hx at *
  obtain ⟨S1, hS1⟩ : ∃ S, 99 :: Hx = S := ⟨_, rfl⟩
  obtain ⟨S2, hS2⟩ : ∃ S, S1 ++ [95] = S := ⟨_, rfl⟩
  obtain ⟨T1, hT1⟩ : ∃ S, [39, c] = S := ⟨_, rfl⟩
  obtain ⟨T2, hT2⟩ : ∃ S, T1 ++ [39] = S := ⟨_, rfl⟩
  have e3 : (99 : UInt8) :: (Hx ++ 95 :: l) = S2 ++ l := by rw [← hS2, ← hS1]; simp
  have e4 : [39, c, 39] = T2 := by rw [← hT2, ← hT1]; rfl
  have n1 : S1.length = Hx.length + 1 := by rw [← hS1]; simp
  have n2 : S2.length = S1.length + 1 := by rw [← hS2]; simp
  have n3 : T1.length = 2 := by rw [← hT1]; simp
  rw [e3, e4] at hr
  have a1 : ∀ W, (Op.stringOp .add ⟨#[99]⟩ (bs Hx)).run Tryd.prog W = .ok (.string (bs S1)) W := by rw [← hS1]; exact add_bs [99] _ (by simp; omega)
  have a2 : ∀ W, (Op.stringOp .add (bs S1) ⟨#[95]⟩).run Tryd.prog W = .ok (.string (bs S2)) W := by rw [← hS2]; exact add_bs S1 [95] (by simp; omega)
  have a3 : ∀ W, (Op.stringOp .add ⟨#[39]⟩ (bs [c])).run Tryd.prog W = .ok (.string (bs T1)) W := by rw [← hT1]; exact add_bs [39] [c] (by simp)
  have a4 : ∀ W, (Op.stringOp .add (bs T1) ⟨#[39]⟩).run Tryd.prog W = .ok (.string (bs T2)) W := by rw [← hT2]; exact add_bs T1 [39] (by simp; omega)
  have HI := Lib.hid (fun (W : World) (hb : Below w.heap.size w W) => (constIs_yes (w := W) (c := S2) (l := l) (o := T2) ((hP.keep hb (Nat.le_refl _)).up hb.size (Nat.le_refl _)) (by omega) hr).mono fun e w' h => (show e = .returned (.bool true) ∧ Below w.heap.size w w' from ⟨h.1, hb.trans (h.2.mono hb.size)⟩))
  have hcu := c_one c
  have hn1 := c_new1
  have hn2 := c_new2
  clear HR hz hP hr e3 e4 n1 n2 n3 hS1 hS2 hT1 hT2 hx64 hk k1 k2 k3 k4
  go_enter Tryd.func12, Tryd.ntmps12
  go_wp2_with fail
  go_region_with (first
    | (go_at_call 37; refine (HR'.out _).mono ?_; rintro e w3 ⟨rfl, hb3⟩; have hb3w : Below w.heap.size w w3 := Below.trans (by repeat (first | exact Below.refl _ _ | refine Below.drew ?_ | refine below_drewN ?_ _ | refine Below.alloc ?_ (by first | exact Nat.le_refl _ | (simp only [World.size_alloc]; omega)) _)) (hb3.mono (by simp)))
    | (go_at_call 30; refine (HX.out _).mono ?_; rintro e w4 ⟨rfl, m, rfl⟩)
    | (go_at_call 31; refine (HI.out _ (by repeat (first | exact hb3w | refine Below.drew ?_ | refine below_drewN ?_ _ | refine Below.alloc ?_ (by first | exact hb3w.size | (simp; done) | (simp; omega)) _))).mono ?_; rintro e w6 ⟨rfl, hb6⟩))
  all_goals
    go_wp2
    go_ret
    exact ⟨rfl, hb6⟩

theorem constChar_walk (w : World) (hP : Pow w w.heap.size) (c : UInt8) (l : List UInt8) (hl : l.length ≤ maxLen) :
    Calls Tryd.prog 12 #[.int .u8 (c.toNat : Int), .string (bs l)] w fun e w' => e = .returned (.bool true) ∧ Below w.heap.size w w' := by
  by_cases hz : 2147483647 < l.length
  · go_enter Tryd.func12, Tryd.ntmps12
    go_wp2_with fail
    go_ret
    exact ⟨rfl, Below.refl _ _⟩
  · have HR : NumSays 99 (c.toNat : Int) (charOk c.toNat) := fun W => isNumC_any c.toNat W
    cases hR : charOk c.toNat with
    | true => exact char_yes w hP c l hz hR (fun W => by rw [hR] at HR; exact right_num HR W)
    | false => exact char_no w c l hz (fun W => by rw [hR] at HR; exact right_num HR W)
end Go.Proofs.YtepcpmeblidkgaaDoor
