/- FnConstantMade: RustConstantText at what is right. -/
import Derived.Test.YtokjbdofpdncdaaDoorMadeR
import Derived.Deep.RegionWith
namespace Go.Proofs.YtokjbdofpdncdaaDoor
open Go.RowKit Go.Lib
set_option linter.unusedVariables false
set_option maxRecDepth 100000
attribute [local go_sem] bs_size bs_toList

theorem text_hole (c n : Int) (nm : List UInt8) (f : Bool) (A : Option Addr) (kn kc : Nat) (w : World) :
    Calls Tryd.prog 15 #[rustV 21 c nm n f A kn kc] w fun e w' => e = .returned (.string (bs [95])) ∧ Below w.heap.size w w' := by
  unfold rustV
  go_enter Tryd.func15, Tryd.ntmps15
  go_wp2_with (go_at_call 28; go_in)
  go_ret
  exact ⟨rfl, by repeat (first | exact Below.refl _ _ | refine Below.alloc ?_ (by first | exact Nat.le_refl _ | (simp only [World.size_alloc]; omega)) _)⟩
theorem text_bool (n : Nat) (hn : n ≤ 1) (nm : List UInt8) (f : Bool) (A : Option Addr) (kn kc : Nat) (w : World) :
    Calls Tryd.prog 15 #[rustV 20 98 nm (n : Int) f A kn kc] w fun e w' => e = .returned (.string (bs (if n = 1 then [116, 114, 117, 101] else [102, 97, 108, 115, 101]))) ∧ Below w.heap.size w w' := by
  unfold rustV
  rcases Nat.le_one_iff_eq_zero_or_eq_one.1 hn with rfl | rfl
  all_goals
    go_enter Tryd.func15, Tryd.ntmps15
    go_wp2_with (go_at_call 28; go_in)
    go_ret
    exact ⟨rfl, by repeat (first | exact Below.refl _ _ | refine Below.alloc ?_ (by first | exact Nat.le_refl _ | (simp only [World.size_alloc]; omega)) _)⟩
set_option maxHeartbeats 2000000 in
theorem text_num (c : UInt8) (h98 : c ≠ 98) (h99 : c ≠ 99) (n : Nat) (hn : n ≤ 18446744073709551615) (nm : List UInt8) (f : Bool) (A : Option Addr) (kn kc : Nat) (w : World) :
    Calls Tryd.prog 15 #[rustV 20 (c.toNat : Int) nm (n : Int) f A kn kc] w fun e w' => e = .returned (.string (bs (if f = true then 45 :: decDigits n else decDigits n))) ∧ Below w.heap.size w w' := by
  have HD := Lib.hid (fun W : World => rustDecimal_any n hn W)
  have n98 : c.toNat ≠ 98 := fun e => h98 (UInt8.toNat_inj.1 e)
  have n99 : c.toNat ≠ 99 := fun e => h99 (UInt8.toNat_inj.1 e)
  have cb98 : ((c.toNat : Int) == 98) = false := by simp; omega
  have cb99 : ((c.toNat : Int) == 99) = false := by simp; omega
  have hdl : (decDigits n).length ≤ 20 := decDigits_len 19 n (by omega)
  unfold rustV
  generalize decDigits n = D at *
  obtain ⟨S1, hS1⟩ : ∃ S, (45 : UInt8) :: D = S := ⟨_, rfl⟩
  have a1 : ∀ W, (Op.stringOp .add ⟨#[45]⟩ (bs D)).run Tryd.prog W = .ok (.string (bs S1)) W := by rw [← hS1]; exact add_bs [45] D (by simp; omega)
  rw [hS1]
  clear h98 h99 n98 n99 hdl hS1
  cases f
  all_goals
    go_enter Tryd.func15, Tryd.ntmps15
    go_wp2_with (first
      | (go_at_call 28; go_in)
      | (go_at_call 50; refine (HD.out _).mono ?_; rintro e w5 ⟨rfl, hb5⟩))
    go_ret
    exact ⟨rfl, Below.trans (by repeat (first | exact Below.refl _ _ | refine Below.drew ?_ | refine below_drewN ?_ _ | refine Below.alloc ?_ (by first | exact Nat.le_refl _ | (simp only [World.size_alloc]; omega)) _)) (hb5.mono (by simp only [World.size_alloc]; omega))⟩
theorem t_one (d : UInt8) (V : World) (b : Nat) (hc : V.cell? ⟨b, 0, none⟩ = some (.int .u8 (d.toNat : Int))) : (convert 23 9 (.slice (some ⟨b, 0, none⟩) 1 1)).run Tryd.prog V = .ok (.string (bs [d])) V := by
  refine Bytes.convert (P := Tryd.prog) (A := some ⟨b, 0, none⟩) (n := 1) (l := [d]) ⟨rfl, .inr ⟨_, 0, rfl, World.block_lt_of_cell? V _ hc, fun j hj => ?_⟩⟩ 1 Tryd.underlying23 Tryd.underlying5 Tryd.underlying9
  have hj0 : j = 0 := by simp at hj; omega
  subst hj0
  exact hc
theorem t_heap (W : World) (m : Nat) : (W.drewN m).heap = W.heap := by
  induction m generalizing W with
  | zero => rfl
  | succ m ih => exact ih W.drew
theorem t_new1 (W : World) (m : Nat) (x : Int) : ((W.drewN m).alloc (.cells #[.int .u8 x] 5)).cell? ⟨W.heap.size, 0, none⟩ = some (.int .u8 x) := by
  have := (Blk.new (W.drewN m) 5 #[Value.int .u8 x]).cell 0
  rw [t_heap] at this
  exact this
theorem t_new2 (W : World) (m : Nat) (x : Int) : ((W.alloc (.cells #[.int .u8 x] 5)).drewN m).cell? ⟨W.heap.size, 0, none⟩ = some (.int .u8 x) := by
  have := (Blk.new W 5 #[Value.int .u8 x]).cell 0
  unfold World.cell? at this ⊢
  rw [t_heap]
  exact this

theorem wrap_d8 (d : UInt8) : IntKind.u8.wrap (d.toNat : Int) = (d.toNat : Int) := by
  have := d.toNat_lt
  simp only [IntKind.wrap_u8]
  omega
set_option maxHeartbeats 2000000 in
theorem text_char (d : UInt8) (nm : List UInt8) (f : Bool) (A : Option Addr) (kn kc : Nat) (w : World) :
    Calls Tryd.prog 15 #[rustV 20 99 nm (d.toNat : Int) f A kn kc] w fun e w' => e = .returned (.string (bs [39, d, 39])) ∧ Below w.heap.size w w' := by
  have hwr := wrap_d8 d
  unfold rustV
  obtain ⟨T1, hT1⟩ : ∃ S, [39, d] = S := ⟨_, rfl⟩
  obtain ⟨T2, hT2⟩ : ∃ S, T1 ++ [39] = S := ⟨_, rfl⟩
  have e4 : [39, d, 39] = T2 := by rw [← hT2, ← hT1]; rfl
  have n3 : T1.length = 2 := by rw [← hT1]; simp
  have a3 : ∀ W, (Op.stringOp .add ⟨#[39]⟩ (bs [d])).run Tryd.prog W = .ok (.string (bs T1)) W := by rw [← hT1]; exact add_bs [39] [d] (by simp)
  have a4 : ∀ W, (Op.stringOp .add (bs T1) ⟨#[39]⟩).run Tryd.prog W = .ok (.string (bs T2)) W := by rw [← hT2]; exact add_bs T1 [39] (by simp; omega)
  rw [e4]
  have hcu := t_one d
  have hn1 := t_new1
  have hn2 := t_new2
  clear e4 n3 hT1 hT2
  go_enter Tryd.func15, Tryd.ntmps15
  go_wp2_with (go_at_call 28; go_in)
  go_ret
  exact ⟨rfl, by repeat (first | exact Below.refl _ _ | refine Below.drew ?_ | refine below_drewN ?_ _ | refine Below.alloc ?_ (by first | exact Nat.le_refl _ | (simp only [World.size_alloc]; omega)) _)⟩
end Go.Proofs.YtokjbdofpdncdaaDoor
