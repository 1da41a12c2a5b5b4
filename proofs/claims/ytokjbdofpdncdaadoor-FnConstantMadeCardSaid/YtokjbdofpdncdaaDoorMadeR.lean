/- FnConstantMade: which constants are right, at any value. -/
import Derived.Test.YtokjbdofpdncdaaDoorRight
import Derived.Deep.RegionWith
namespace Go.Proofs.YtokjbdofpdncdaaDoor
open Go.RowKit Go.Lib
set_option linter.unusedVariables false
set_option maxRecDepth 100000
attribute [local go_sem] bs_size bs_toList

/-- A value of the reference's type: kind, letter, name, number, flag, kids. -/
def rustV (k c : Int) (nm : List UInt8) (n : Int) (f : Bool) (A : Option Addr) (kn kc : Nat) : Value := .agg #[.int .i64 k, .int .u8 c, .string (bs nm), .int .u64 n, .bool f, .slice A kn kc]
def numOk (c : UInt8) (n : Nat) (f : Bool) : Bool :=
  if c = 98 then decide ((n : Int) ≤ 1) && !f
  else if c = 99 then charOk n && !f
  else if (bitsOf c).1 = 0 then false
  else if (bitsOf c).2 = false then !f && ((((bitsOf c).1 : Int) == 64) || decide ((n : Int) < IntKind.u64.wrap (2 ^ min (bitsOf c).1 64)))
  else if f = true then decide ((0 : Int) < n) && decide ((n : Int) ≤ IntKind.u64.wrap (2 ^ min ((bitsOf c).1 - 1) 64))
  else decide ((n : Int) < IntKind.u64.wrap (2 ^ min ((bitsOf c).1 - 1) 64))
/-- What such a number is. -/
def NumGood (c : UInt8) (n : Nat) (f : Bool) : Prop :=
  (c = 98 ∧ n ≤ 1 ∧ f = false) ∨ (c = 99 ∧ (32 ≤ n ∧ n ≤ 126 ∧ n ≠ 39 ∧ n ≠ 34 ∧ n ≠ 92) ∧ f = false) ∨
  ((bitsOf c).1 ≠ 0 ∧ (bitsOf c).2 = false ∧ f = false) ∨ ((bitsOf c).1 ≠ 0 ∧ (bitsOf c).2 = true)
theorem numOk_good {c : UInt8} {n : Nat} {f : Bool} (h : numOk c n f = true) : NumGood c n f := by
  unfold numOk at h
  split at h
  · rename_i hc
    simp only [Bool.and_eq_true, decide_eq_true_eq, Bool.not_eq_true'] at h
    exact .inl ⟨hc, by omega, h.2⟩
  · split at h
    · rename_i hc
      simp only [Bool.and_eq_true, Bool.not_eq_true'] at h
      exact .inr (.inl ⟨hc, of_decide_eq_true h.1, h.2⟩)
    · split at h
      · exact absurd h (by simp)
      · split at h
        · rename_i h0 hs
          simp only [Bool.and_eq_true, Bool.not_eq_true'] at h
          exact .inr (.inr (.inl ⟨h0, hs, h.1⟩))
        · rename_i h0 hs
          exact .inr (.inr (.inr ⟨h0, by simpa using hs⟩))

theorem bitsOf_le (c : UInt8) : (bitsOf c).1 ≤ 64 := by
  unfold bitsOf
  repeat' split
  all_goals decide
set_option maxHeartbeats 4000000 in
theorem isNum_any (k : Int) (c : UInt8) (nm : List UInt8) (n : Nat) (f : Bool) (A : Option Addr) (kn kc : Nat) (w : World) :
    Calls Tryd.prog 71 #[rustV k (c.toNat : Int) nm (n : Int) f A kn kc] w fun e w' => e = .returned (.bool (numOk c n f)) ∧ Below w.heap.size w w' := by
  have HB := Lib.hid (fun W : World => rustBits_any c W)
  unfold rustV
  by_cases h98 : c = 98
  · subst h98
    have hR : Hid (numOk 98 n f = (decide ((n : Int) ≤ 1) && !f)) := Lib.hid (by unfold numOk; rw [if_pos rfl])
    clear HB
    go_enter Tryd.func71, Tryd.ntmps71
    go_wp2
    all_goals
      go_ret
      refine ⟨?_, (Below.refl _ _).alloc (Nat.le_refl _) _⟩
      rw [hR.out]
      first | rfl | (simp; done) | (simp; omega) | (cases f <;> simp <;> omega)
  have n98 : c.toNat ≠ 98 := fun e => h98 (UInt8.toNat_inj.1 e)
  have cb98 : ((c.toNat : Int) == 98) = false := by simp; omega
  by_cases h99 : c = 99
  · subst h99
    have hR : Hid (numOk 99 n f = (charOk n && !f)) := Lib.hid (by unfold numOk; rw [if_neg (by decide), if_pos rfl])
    clear HB
    go_enter Tryd.func71, Tryd.ntmps71
    go_wp2
    all_goals
      go_ret
      refine ⟨?_, (Below.refl _ _).alloc (Nat.le_refl _) _⟩
      rw [hR.out]
      clear hR
      refine congrArg (fun b => Ending.returned (Value.bool b)) ?_
      rw [show charOk n = decide (32 ≤ n ∧ n ≤ 126 ∧ n ≠ 39 ∧ n ≠ 34 ∧ n ≠ 92) from rfl, Bool.eq_iff_iff]
      cases f <;> simp <;> omega
  have n99 : c.toNat ≠ 99 := fun e => h99 (UInt8.toNat_inj.1 e)
  have cb99 : ((c.toNat : Int) == 99) = false := by simp; omega
  have hR : Hid (numOk c n f = if (bitsOf c).1 = 0 then false
  else if (bitsOf c).2 = false then !f && ((((bitsOf c).1 : Int) == 64) || decide ((n : Int) < IntKind.u64.wrap (2 ^ min (bitsOf c).1 64)))
  else if f = true then decide ((0 : Int) < n) && decide ((n : Int) ≤ IntKind.u64.wrap (2 ^ min ((bitsOf c).1 - 1) 64))
  else decide ((n : Int) < IntKind.u64.wrap (2 ^ min ((bitsOf c).1 - 1) 64))) := Lib.hid (by unfold numOk; rw [if_neg h98, if_neg h99])
  have hbt : (bitsOf c).1 ≤ 64 := bitsOf_le c
  clear h98 h99 n98 n99
  generalize (bitsOf c).1 = bt at *
  generalize (bitsOf c).2 = sg at *
  by_cases h0 : bt = 0
  · subst h0
    go_enter Tryd.func71, Tryd.ntmps71
    go_wp2_with (go_at_call 93; refine (HB.out _).mono ?_; rintro e w2 ⟨rfl, rfl⟩)
    go_ret
    refine ⟨?_, (Below.refl _ _).alloc (Nat.le_refl _) _⟩
    rw [hR.out]
    rfl
  have hz : ((bt : Int) == 0) = false := by simp; omega
  have m1 : min bt 64 = bt := by omega
  have m2 : min (bt - 1) 64 = bt - 1 := by omega
  have hm : IntKind.u64.wrap ((bt : Int) - 1) = ((bt - 1 : Nat) : Int) := by rw [IntWalk.u64_in _ ⟨by omega, by omega⟩]; omega
  cases sg with
  | true =>
    go_enter Tryd.func71, Tryd.ntmps71
    cases f
    · go_wp2_with (go_at_call 93; refine (HB.out _).mono ?_; rintro e w2 ⟨rfl, rfl⟩)
      all_goals
        go_ret
        refine ⟨?_, (Below.refl _ _).alloc (Nat.le_refl _) _⟩
        rw [hR.out]
        refine congrArg (fun b => Ending.returned (Value.bool b)) ?_
        clear hR HB
        rw [m2]
        generalize IntKind.u64.wrap (2 ^ (bt - 1)) = X2
        first | (simp [h0]; done) | (simp [h0]; omega) | (simp [h0]; intro _; omega)
    · go_wp2_with (go_at_call 93; refine (HB.out _).mono ?_; rintro e w2 ⟨rfl, rfl⟩)
      all_goals
        go_ret
        refine ⟨?_, (Below.refl _ _).alloc (Nat.le_refl _) _⟩
        rw [hR.out]
        refine congrArg (fun b => Ending.returned (Value.bool b)) ?_
        clear hR HB
        rw [m2]
        generalize IntKind.u64.wrap (2 ^ (bt - 1)) = X2
        first | (simp [h0]; done) | (simp [h0]; omega) | (simp [h0]; intro _; omega)
  | false =>
    go_enter Tryd.func71, Tryd.ntmps71
    by_cases h64 : ((bt : Int) == 64) = true
    · cases f
      all_goals
        go_wp2_with (go_at_call 93; refine (HB.out _).mono ?_; rintro e w2 ⟨rfl, rfl⟩)
        all_goals
          go_ret
          refine ⟨?_, (Below.refl _ _).alloc (Nat.le_refl _) _⟩
          rw [hR.out]
          refine congrArg (fun b => Ending.returned (Value.bool b)) ?_
          clear hR HB
          simp [h0, h64]
    · cases f
      all_goals
        go_wp2_with (go_at_call 93; refine (HB.out _).mono ?_; rintro e w2 ⟨rfl, rfl⟩)
        all_goals
          go_ret
          refine ⟨?_, (Below.refl _ _).alloc (Nat.le_refl _) _⟩
          rw [hR.out]
          refine congrArg (fun b => Ending.returned (Value.bool b)) ?_
          clear hR HB
          rw [m1]
          generalize IntKind.u64.wrap (2 ^ bt) = X1
          simp at h64
          simp [h0, h64]
end Go.Proofs.YtokjbdofpdncdaaDoor
