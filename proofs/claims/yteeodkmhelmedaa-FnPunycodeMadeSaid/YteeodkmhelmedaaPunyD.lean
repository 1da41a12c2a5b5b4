/- Digits of Punycode out of bytes: the walk. -/
import Derived.Test.YteeodkmhelmedaaIn
import Derived.Test.YteeodkmhelmedaaCutP
namespace Go.Proofs.Yteeodkmhelmedaa
open Go.RowKit Go.Lib
set_option linter.unusedVariables false
set_option maxRecDepth 100000
attribute [local go_sem] bs_size bs_toList

def lowTab : List UInt8 := [97, 98, 99, 100, 101, 102, 103, 104, 105, 106, 107, 108, 109, 110, 111, 112, 113, 114, 115, 116, 117, 118, 119, 120, 121, 122, 48, 49, 50, 51, 52, 53, 54, 55, 56, 57]
def lowAt (c : UInt8) : UInt8 := lowTab.getD (c.toNat % 36) 0
theorem lowTab_low : ∀ k, k < 36 → (97 ≤ (lowTab.getD k 0).toNat ∧ (lowTab.getD k 0).toNat ≤ 122) ∨ (48 ≤ (lowTab.getD k 0).toNat ∧ (lowTab.getD k 0).toNat ≤ 57) := by decide +kernel
theorem lowAt_low (c : UInt8) : IsLow (lowAt c) := lowTab_low _ (Nat.mod_lt _ (by decide))
theorem ext_low (k : Nat) (h : k < 36) : (ByteArray.mk #[97, 98, 99, 100, 101, 102, 103, 104, 105, 106, 107, 108, 109, 110, 111, 112, 113, 114, 115, 116, 117, 118, 119, 120, 121, 122, 48, 49, 50, 51, 52, 53, 54, 55, 56, 57]).extract k (k + 1) = bs [lowTab.getD k 0] := by
  show (bs lowTab).extract _ _ = _
  rw [bs_extract]
  congr 1
  have : ∀ j, j < 36 → (lowTab.drop j).take (j + 1 - j) = [lowTab.getD j 0] := by decide +kernel
  exact this _ h

set_option maxHeartbeats 2000000 in
theorem idPuny_any {w : World} {A : Option Addr} {n c : Nat} {l : List UInt8} (hB : Bytes w A n l) (hc : n ≤ c) (hn : n ≤ maxLen) :
    Calls Try.prog 7 #[.slice none 0 0, .slice A n c] w fun e w' => e = .returned (.string (bs ((l.take (min n 1000)).map lowAt))) ∧ w = w' := by
  have hT := hB.take (min n 1000) (by omega)
  have hll : (l.take (min n 1000)).length ≤ 1000 := by simp; omega
  obtain ⟨hlen, hT⟩ := hT
  have hlen' := Lib.hid hlen
  generalize l.take (min n 1000) = L at *
  have HC := Lib.hid (fun W => idCut_any (w := W) (A := A) hc)
  rw [← hlen] at HC
  have HT := Lib.hid hT
  clear hT hB hlen
  go_enter Try.func7, Try.ntmps7
  go_wp2_with (go_at_call 6; refine (HC.out _).mono ?_; rintro e w2 ⟨rfl, rfl⟩)
  go_loopg [5, 18] L.length (fun g s i wr => ∃ k : Nat, s = .string (bs ((L.take k).map lowAt)) ∧ i = .int .i64 (k : Int) ∧ k + g = L.length ∧ w2 = wr)
  case atStart => exact ⟨0, rfl, rfl, by omega, rfl⟩
  case round =>
    obtain ⟨k, rfl, rfl, hg, rfl⟩ := hrel
    by_cases hk : k < L.length
    · rcases HT.out with h | ⟨b, off, rfl, hlt, hcc⟩
      · rw [h] at hk; cases hk
      · have ck := hcc k hk
        clear hcc
        have hmore : (L.take (k + 1)).map lowAt = (L.take k).map lowAt ++ [lowAt L[k]] := by rw [List.take_succ_eq_append_getElem hk, List.map_append]; rfl
        have hlk : ((L.take k).map lowAt).length = k := by simp; omega
        obtain ⟨x, hx⟩ : ∃ x, L[k] = x := ⟨_, rfl⟩
        rw [hx] at ck hmore
        obtain ⟨r, hr⟩ : ∃ r, x.toNat % 36 = r := ⟨_, rfl⟩
        have hr36 : r < 36 := by rw [← hr]; exact Nat.mod_lt _ (by decide)
        have hrv : Int.tmod (x.toNat : Int) 36 = (r : Int) := by rw [← hr]; rfl
        have hext := ext_low r hr36
        have hlow : lowAt x = lowTab.getD r 0 := by unfold lowAt; rw [hr]
        rw [hlow] at hmore
        generalize lowTab.getD r 0 = d at *
        obtain ⟨T, hT⟩ : ∃ T, (L.take k).map lowAt = T := ⟨_, rfl⟩
        rw [hT] at hmore hlk ⊢
        replace hmore := Lib.hid hmore
        have ha : ∀ W, (Op.stringOp .add (bs T) (bs [d])).run Try.prog W = .ok (.string (bs (T ++ [d]))) W := add_bs T [d] (by simp; omega)
        clear hx hr hlow hT
        go_wp2_with fail
        go_roundg (L.length - (k + 1))
        case measure => omega
        case rel => exact ⟨k + 1, by rw [hmore.out], by go_num, by omega, rfl⟩
    · obtain rfl : k = L.length := by omega
      rw [List.take_length]
      go_wp2_with fail
      go_ret
      exact ⟨rfl, rfl⟩
end Go.Proofs.Yteeodkmhelmedaa
