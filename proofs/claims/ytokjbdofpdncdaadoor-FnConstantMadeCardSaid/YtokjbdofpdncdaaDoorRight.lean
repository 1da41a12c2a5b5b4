/- Which constants are right: the reference's look, at numbers. -/
import Derived.Test.YtokjbdofpdncdaaDoorLawConst
import Derived.Deep.RegionWith
namespace Go.Proofs.YtokjbdofpdncdaaDoor
open Go.RowKit Go.Lib
set_option linter.unusedVariables false
set_option maxRecDepth 100000
attribute [local go_sem] bs_size bs_toList

/-- A number: its letter, what it is. -/
def numV (c n : Int) : Value := .agg #[.int .i64 20, .int .u8 c, .string ⟨#[]⟩, .int .u64 n, .bool false, .slice none 0 0]
def numR (c : UInt8) (n : Nat) : Bool := (((bitsOf c).1 : Int) == 64) || decide ((n : Int) < IntKind.u64.wrap (2 ^ min (bitsOf c).1 64))
theorem isNumU_any {c : UInt8} (h98 : c ≠ 98) (h99 : c ≠ 99) (h0 : (bitsOf c).1 ≠ 0) (hs : (bitsOf c).2 = false) (n : Nat) (w : World) :
    Calls Tryd.prog 71 #[numV (c.toNat : Int) (n : Int)] w fun e w' => e = .returned (.bool (numR c n)) ∧ Below w.heap.size w w' := by
  have HB := Lib.hid (fun W : World => rustBits_any c W)
  have n98 : c.toNat ≠ 98 := fun e => h98 (UInt8.toNat_inj.1 e)
  have n99 : c.toNat ≠ 99 := fun e => h99 (UInt8.toNat_inj.1 e)
  have cb98 : ((c.toNat : Int) == 98) = false := by simp; omega
  have cb99 : ((c.toNat : Int) == 99) = false := by simp; omega
  have hz : (((bitsOf c).1 : Int) == 0) = false := by simp; omega
  have HN := Lib.hid (show numR c n = ((((bitsOf c).1 : Int) == 64) || decide ((n : Int) < IntKind.u64.wrap (2 ^ min (bitsOf c).1 64))) from rfl)
  rw [hs] at HB
  unfold numV
  clear h98 h99 n98 n99 h0
  generalize (bitsOf c).1 = bt at *
  by_cases h64 : ((bt : Int) == 64) = true
  · go_enter Tryd.func71, Tryd.ntmps71
    go_wp2_with (go_at_call 93; refine (HB.out _).mono ?_; rintro e w2 ⟨rfl, rfl⟩)
    go_ret
    refine ⟨?_, (Below.refl _ _).alloc (Nat.le_refl _) _⟩
    rw [HN.out, h64]
    rfl
  · go_enter Tryd.func71, Tryd.ntmps71
    go_wp2_with (go_at_call 93; refine (HB.out _).mono ?_; rintro e w2 ⟨rfl, rfl⟩)
    go_ret
    refine ⟨?_, (Below.refl _ _).alloc (Nat.le_refl _) _⟩
    rw [HN.out, show ((bt : Int) == 64) = false by simpa using h64]
    rfl
def charOk (n : Nat) : Bool := decide (32 ≤ n ∧ n ≤ 126 ∧ n ≠ 39 ∧ n ≠ 34 ∧ n ≠ 92)
theorem isNumC_any (n : Nat) (w : World) : Calls Tryd.prog 71 #[numV 99 (n : Int)] w fun e w' => e = .returned (.bool (charOk n)) ∧ Below w.heap.size w w' := by
  unfold numV
  go_enter Tryd.func71, Tryd.ntmps71
  go_wp2
  all_goals
    go_ret
    refine ⟨?_, (Below.refl _ _).alloc (Nat.le_refl _) _⟩
    first
    | (rw [show charOk n = false from decide_eq_false (by omega)]; rfl)
    | (rw [show charOk n = true from decide_eq_true (by omega)]
       show Ending.returned (.bool (((n : Int) != 39 && (n : Int) != 34) && (n : Int) != 92)) = _
       rw [show ((((n : Int) != 39 && (n : Int) != 34) && (n : Int) != 92)) = true by simp; omega])

/-- What the reference says of a number. -/
def NumSays (c n : Int) (R : Bool) : Prop := ∀ W : World, Calls Tryd.prog 71 #[numV c n] W fun e w' => e = .returned (.bool R) ∧ Below W.heap.size W w'
set_option maxHeartbeats 2000000 in
theorem other_num {c n : Int} {R : Bool} (H : NumSays c n R) (w : World) (b : Nat) (d bd : Int) :
    Calls Tryd.prog 43 #[.pointer (some ⟨b, 0, none⟩), numV c n, .int .i64 d, .int .i64 bd] w fun e w' => e = .returned (.bool R) ∧ Below w.heap.size w w' := by
  have HN := Lib.hid H
  clear H
  unfold NumSays at HN
  unfold numV at HN ⊢
  go_enter Tryd.func43, Tryd.ntmps43
  go_wp2_with (go_at_call 71; refine (HN.out _).mono ?_; rintro e w2 ⟨rfl, hb2⟩)
  go_ret
  exact ⟨rfl, Below.trans ((Below.refl _ _).alloc (Nat.le_refl _) _) (hb2.mono (by simp))⟩
theorem fits_num (w : World) : Calls Tryd.prog 39 #[.int .i64 20, .int .i64 3] w fun e w' => e = .returned (.bool true) ∧ w = w' := by
  go_enter Tryd.func39, Tryd.ntmps39
  go_wp2
  go_ret
  exact ⟨rfl, rfl⟩
theorem path_num (w : World) : Calls Tryd.prog 40 #[.int .i64 20] w fun e w' => e = .returned (.bool false) ∧ w = w' := by
  go_enter Tryd.func40, Tryd.ntmps40
  go_wp2
  go_ret
  exact ⟨rfl, rfl⟩
set_option maxHeartbeats 2000000 in
theorem right_num {c n : Int} {R : Bool} (H : NumSays c n R) (w : World) :
    Calls Tryd.prog 12 #[numV c n] w fun e w' => e = .returned (.bool R) ∧ Below w.heap.size w w' := by
  have HO := Lib.hid (fun (W : World) (b : Nat) (d bd : Int) => other_num H W b d bd)
  have HF := Lib.hid (fun W => fits_num W)
  have HPa := Lib.hid (fun W => path_num W)
  clear H
  unfold numV at HO ⊢
  go_enter Tryd.func12, Tryd.ntmps12
  go_wp2_with (first
    | (go_at_call 39; refine (HF.out _).mono ?_; rintro e w1 ⟨rfl, rfl⟩)
    | (go_at_call 40; refine (HPa.out _).mono ?_; rintro e w1 ⟨rfl, rfl⟩)
    | (go_at_call 43; refine (HO.out _ _ _ _).mono ?_; rintro e w2 ⟨rfl, hb2⟩)
    | (go_at_call 25; go_in))
  go_ret
  exact ⟨rfl, Below.trans (by repeat (first | exact Below.refl _ _ | refine Below.alloc ?_ (by first | exact Nat.le_refl _ | (simp only [World.size_alloc]; omega)) _)) (hb2.mono (by simp only [World.size_alloc]; omega))⟩
end Go.Proofs.YtokjbdofpdncdaaDoor
