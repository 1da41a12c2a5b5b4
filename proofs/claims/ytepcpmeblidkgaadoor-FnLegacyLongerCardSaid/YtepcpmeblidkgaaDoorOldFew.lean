/- The reader of old-style names at a hash with fewer than five different digits: it is none. -/
import Derived.Test.YtepcpmeblidkgaaDoorOld
namespace Go.Proofs.YtepcpmeblidkgaaDoor
open Go.RowKit Go.Lib Go.Maps Go.WideMaps
set_option linter.unusedVariables false
set_option maxRecDepth 100000
attribute [local go_sem] bs_size bs_get0

set_option maxHeartbeats 4000000 in
theorem old_few {w : World} {B h : List UInt8} (hh1 : h.length = 16) (hh2 : ∀ c ∈ h, hexLo c = some (hexV c)) (hh3 : pop16 (maskH h) < 5) (hBl : B.length ≤ 300000000) :
    Calls Tryd.prog 55 #[.string (bs (95 :: 90 :: 78 :: (B ++ (49 :: 55 :: 104 :: (h ++ [69]))))), .slice none 0 0] w fun e w' =>
      e = .returned (.tuple #[.string (bs []), .bool false]) ∧ Below w.heap.size w w' := by
  have hmf : ∀ (fn : Fn) (first cap : Array Value) (w : World), (Instr.makeFunc fn first cap).run Tryd.prog w = .ok (.func fn first cap) w := fun _ _ _ _ => rfl
  obtain ⟨R, hR⟩ : ∃ R, B ++ (49 :: 55 :: 104 :: (h ++ [69])) = R := ⟨_, rfl⟩
  have hRl : R.length = B.length + 20 := by rw [← hR]; simp; omega
  have hx3 : (bs (95 :: 90 :: 78 :: R)).extract 3 (B.length + 20 + 1 + 1 + 1) = bs R := by
    have := bs_from (95 :: 90 :: 78 :: R) 3
    rw [← hRl]
    exact this
  have hget : ∀ (k : Nat) (hk : k < 16) (hp : B.length + 3 + k < (bs R).size), (bs R)[B.length + 3 + k]'hp = h[k]'(by omega) := by
    intro k hk hp
    rw [bs_get]
    subst hR
    rw [List.getElem_append_right (by omega)]
    have e : B.length + 3 + k - B.length = k + 1 + 1 + 1 := by omega
    simp only [e, List.getElem_cons_succ]
    rw [List.getElem_append_left (by omega)]
  have hx4 : (bs R).extract 0 B.length = bs B := by rw [bs_to, ← hR]; simp
  rw [hR]
  have HH := Lib.hid hh2
  have HG := Lib.hid hget
  clear hh2 hget hR
  go_enter Tryd.func55, Tryd.ntmps55
  go_wp2_with fail
  go_loop [6, 31] (fun m i => m = .int .i64 0 ∧ i = .int .i64 0) (fun _ _ => 0)
  case atStart => exact ⟨rfl, rfl⟩
  case round =>
    obtain ⟨rfl, rfl⟩ := hrel
    go_wp2_with fail
    go_loopg [10, 11] 16 (fun g s i wr => ∃ k : Nat, s = .int .u16 (maskH (h.take k) : Int) ∧ i = .int .i64 ((B.length : Int) + 3 + (k : Int)) ∧ k + g = 16 ∧ w = wr)
    case atStart => exact ⟨0, rfl, by go_num, by omega, rfl⟩
    case round =>
      obtain ⟨k, rfl, rfl, hg, rfl⟩ := hrel
      by_cases hk : k < 16
      · have hkl : k < h.length := by omega
        have hp : B.length + 3 + k < (bs R).size := by rw [bs_size]; omega
        have hgk := HG.out k hk hp
        have hlo := HH.out h[k] (List.getElem_mem _)
        have hm1 : maskH (h.take (k + 1)) = maskH (h.take k) ||| 2 ^ hexV h[k] := by
          rw [List.take_succ_eq_append_getElem hkl, maskH_snoc]
        have hv := hexV_lt h[k]
        have hml := maskH_lt (h.take k)
        generalize h[k] = c at *
        have HD := Lib.hid (fun W => hexDigit_any hlo W)
        generalize hexV c = d at *
        clear hx3 hx4 hlo
        go_wp2_with (go_at_call 70; refine (HD.out _).mono ?_; rintro e w2 ⟨rfl, rfl⟩)
        go_roundg (16 - (k + 1))
        case measure => omega
        case rel => exact ⟨k + 1, by rw [or_pow hml hv, hm1], by go_num, by omega, rfl⟩
      · obtain rfl : k = 16 := by omega
        have ht : h.take 16 = h := List.take_of_length_le (by omega)
        have HO := Lib.hid (ones_any (maskH h) (maskH_lt h))
        rw [ht]
        have h5 : (pop16 (maskH h) : Int) < 5 := by omega
        clear hh1 hh3 HH HG ht
        go_wp2_with (go_at_call 71; refine (HO.out _).mono ?_; rintro e w2 ⟨rfl, m, rfl⟩)
        go_ret2
        exact ⟨rfl, below_drewN (Below.refl _ _) m⟩
end Go.Proofs.YtepcpmeblidkgaaDoor
