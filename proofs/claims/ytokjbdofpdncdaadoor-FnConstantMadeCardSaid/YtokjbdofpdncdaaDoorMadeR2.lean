/- FnConstantMade: RustRightConstant at any value. -/
import Derived.Test.YtokjbdofpdncdaaDoorMadeR
import Derived.Deep.RegionWith
namespace Go.Proofs.YtokjbdofpdncdaaDoor
open Go.RowKit Go.Lib
set_option linter.unusedVariables false
set_option maxRecDepth 100000
attribute [local go_sem] bs_size bs_toList

theorem fits_no (w : World) (k : Int) (h1 : k ≠ 20) (h2 : k ≠ 21) : Calls Tryd.prog 39 #[.int .i64 k, .int .i64 3] w fun e w' => e = .returned (.bool false) ∧ w = w' := by
  have c1 : (k == 20) = false := by simpa using h1
  have c2 : (k == 21) = false := by simpa using h2
  go_enter Tryd.func39, Tryd.ntmps39
  go_wp2
  go_ret
  exact ⟨rfl, rfl⟩
theorem fits_hole (w : World) : Calls Tryd.prog 39 #[.int .i64 21, .int .i64 3] w fun e w' => e = .returned (.bool true) ∧ w = w' := by
  go_enter Tryd.func39, Tryd.ntmps39
  go_wp2
  go_ret
  exact ⟨rfl, rfl⟩
theorem path_hole (w : World) : Calls Tryd.prog 40 #[.int .i64 21] w fun e w' => e = .returned (.bool false) ∧ w = w' := by
  go_enter Tryd.func40, Tryd.ntmps40
  go_wp2
  go_ret
  exact ⟨rfl, rfl⟩
set_option maxHeartbeats 2000000 in
theorem other_n {c : UInt8} {nm : List UInt8} {n : Nat} {f : Bool} {A : Option Addr} {kn kc : Nat} (w : World) (b : Nat) (d bd : Int) :
    Calls Tryd.prog 43 #[.pointer (some ⟨b, 0, none⟩), rustV 20 (c.toNat : Int) nm (n : Int) f A kn kc, .int .i64 d, .int .i64 bd] w fun e w' => e = .returned (.bool (decide (kn = 0) && numOk c n f)) ∧ Below w.heap.size w w' := by
  have HN := Lib.hid (fun W : World => isNum_any 20 c nm n f A kn kc W)
  generalize numOk c n f = R at *
  unfold rustV at *
  by_cases h : kn = 0
  · subst h
    go_enter Tryd.func43, Tryd.ntmps43
    go_wp2_with (go_at_call 71; refine (HN.out _).mono ?_; rintro e w2 ⟨rfl, hb2⟩)
    go_ret
    exact ⟨rfl, Below.trans ((Below.refl _ _).alloc (Nat.le_refl _) _) (hb2.mono (by simp))⟩
  · have c1 : ((kn : Int) == 0) = false := by simpa using h
    go_enter Tryd.func43, Tryd.ntmps43
    go_wp2_with (go_at_call 71; refine (HN.out _).mono ?_; rintro e w2 ⟨rfl, hb2⟩)
    go_ret
    refine ⟨?_, (Below.refl _ _).alloc (Nat.le_refl _) _⟩
    rw [decide_eq_false h]
    rfl
set_option maxHeartbeats 2000000 in
theorem other_h {c : Int} {nm : List UInt8} {n : Int} {f : Bool} {A : Option Addr} {kn kc : Nat} (w : World) (b : Nat) (d bd : Int) :
    Calls Tryd.prog 43 #[.pointer (some ⟨b, 0, none⟩), rustV 21 c nm n f A kn kc, .int .i64 d, .int .i64 bd] w fun e w' => e = .returned (.bool (decide (kn = 0))) ∧ Below w.heap.size w w' := by
  unfold rustV at *
  go_enter Tryd.func43, Tryd.ntmps43
  go_wp2_with fail
  go_ret
  refine ⟨?_, (Below.refl _ _).alloc (Nat.le_refl _) _⟩
  refine congrArg (fun b => Ending.returned (Value.bool b)) ?_
  by_cases h : kn = 0
  · subst h
    rfl
  · rw [decide_eq_false h]
    simpa using h
/-- Which constants are right. -/
def rightOk (k : Int) (c : UInt8) (n : Nat) (f : Bool) (kn : Nat) : Bool := if k = 20 then decide (kn = 0) && numOk c n f else if k = 21 then decide (kn = 0) else false
set_option maxHeartbeats 2000000 in
theorem right_any (k : Int) (c : UInt8) (nm : List UInt8) (n : Nat) (f : Bool) (A : Option Addr) (kn kc : Nat) (w : World) :
    Calls Tryd.prog 12 #[rustV k (c.toNat : Int) nm (n : Int) f A kn kc] w fun e w' => e = .returned (.bool (rightOk k c n f kn)) ∧ Below w.heap.size w w' := by
  by_cases h20 : k = 20
  · subst h20
    rw [show rightOk 20 c n f kn = (decide (kn = 0) && numOk c n f) by unfold rightOk; rw [if_pos rfl]]
    have HO := Lib.hid (fun (W : World) (b : Nat) (d bd : Int) => other_n (c := c) (nm := nm) (n := n) (f := f) (A := A) (kn := kn) (kc := kc) W b d bd)
    generalize (decide (kn = 0) && numOk c n f) = R at *
    have HF := Lib.hid (fun W => fits_num W)
    have HPa := Lib.hid (fun W => path_num W)
    unfold rustV at *
    go_enter Tryd.func12, Tryd.ntmps12
    go_wp2_with (first
      | (go_at_call 39; refine (HF.out _).mono ?_; rintro e w1 ⟨rfl, rfl⟩)
      | (go_at_call 40; refine (HPa.out _).mono ?_; rintro e w1 ⟨rfl, rfl⟩)
      | (go_at_call 43; refine (HO.out _ _ _ _).mono ?_; rintro e w2 ⟨rfl, hb2⟩)
      | (go_at_call 25; go_in))
    go_ret
    exact ⟨rfl, Below.trans (by repeat (first | exact Below.refl _ _ | refine Below.alloc ?_ (by first | exact Nat.le_refl _ | (simp only [World.size_alloc]; omega)) _)) (hb2.mono (by simp only [World.size_alloc]; omega))⟩
  by_cases h21 : k = 21
  · subst h21
    rw [show rightOk 21 c n f kn = decide (kn = 0) by unfold rightOk; rw [if_neg (by decide), if_pos rfl]]
    have HO := Lib.hid (fun (W : World) (b : Nat) (d bd : Int) => other_h (c := (c.toNat : Int)) (nm := nm) (n := (n : Int)) (f := f) (A := A) (kn := kn) (kc := kc) W b d bd)
    generalize decide (kn = 0) = R at *
    have HF := Lib.hid (fun W => fits_hole W)
    have HPa := Lib.hid (fun W => path_hole W)
    unfold rustV at *
    go_enter Tryd.func12, Tryd.ntmps12
    go_wp2_with (first
      | (go_at_call 39; refine (HF.out _).mono ?_; rintro e w1 ⟨rfl, rfl⟩)
      | (go_at_call 40; refine (HPa.out _).mono ?_; rintro e w1 ⟨rfl, rfl⟩)
      | (go_at_call 43; refine (HO.out _ _ _ _).mono ?_; rintro e w2 ⟨rfl, hb2⟩)
      | (go_at_call 25; go_in))
    go_ret
    exact ⟨rfl, Below.trans (by repeat (first | exact Below.refl _ _ | refine Below.alloc ?_ (by first | exact Nat.le_refl _ | (simp only [World.size_alloc]; omega)) _)) (hb2.mono (by simp only [World.size_alloc]; omega))⟩
  · rw [show rightOk k c n f kn = false by unfold rightOk; rw [if_neg h20, if_neg h21]]
    have HF := Lib.hid (fun W => fits_no W k h20 h21)
    unfold rustV at *
    go_enter Tryd.func12, Tryd.ntmps12
    go_wp2_with (first
      | (go_at_call 39; refine (HF.out _).mono ?_; rintro e w1 ⟨rfl, rfl⟩)
      | (go_at_call 25; go_in))
    go_ret
    exact ⟨rfl, by repeat (first | exact Below.refl _ _ | refine Below.alloc ?_ (by first | exact Nat.le_refl _ | (simp only [World.size_alloc]; omega)) _ | refine Below.setCell ?_ (by first | exact Nat.le_refl _ | (simp only [World.size_alloc]; omega)) _)⟩
end Go.Proofs.YtokjbdofpdncdaaDoor
