/- The reference's numbers for constants: in base 16, in decimal, in base 62; the letters of types, and how many bits they have. -/
import Derived.Test.YtokjbdofpdncdaaDoorConstP
import Derived.Test.YtokjbdofpdncdaaDoorSpecB62
import Derived.Deep.QuietTactic
import Derived.BigQuiet
namespace Go.Proofs.YtokjbdofpdncdaaDoor
open Go.RowKit Go.Lib
set_option linter.unusedVariables false
set_option maxRecDepth 100000
attribute [local go_sem] bs_size

theorem ext_hex (k : Nat) (h : k < 16) : (ByteArray.mk #[48, 49, 50, 51, 52, 53, 54, 55, 56, 57, 97, 98, 99, 100, 101, 102]).extract k (k + 1) = bs [hexDig k] := by
  show (bs hexTab).extract _ _ = _
  rw [bs_extract]
  congr 1
  have : ∀ j, j < 16 → (hexTab.drop j).take (j + 1 - j) = [hexDig j] := by decide +kernel
  exact this _ h

set_option maxHeartbeats 1000000 in
theorem rustHex_any : ∀ (n : Nat), n ≤ 18446744073709551615 → ∀ w : World,
    Calls Tryd.prog 76 #[.int .u64 (n : Int)] w fun e w' => e = .returned (.string (bs (hexL n))) ∧ ∃ m, w' = w.drewN m := by
  intro n
  induction n using Nat.strongRecOn with
  | ind n ih =>
    intro hn w
    by_cases h : n < 16
    · have HE := Lib.hid (ext_hex n h)
      have HL := Lib.hid (hexL_small h)
      have h1 : (n : Int) < 16 := by omega
      clear ih hn h
      go_enter Tryd.func76, Tryd.ntmps76
      go_wp2
      go_ret
      refine ⟨?_, 0, rfl⟩
      rw [HE.out, HL.out]
      rfl
    · have e16 : (((n / 16 : Nat)) : Int) = (n : Int) / 16 := by omega
      have IH := ih (n / 16) (by omega) (by omega)
      rw [e16] at IH
      replace IH := Lib.hid IH
      clear e16
      have hlen := hexL_64 (n / 16) (by omega)
      have HE := ext_hex (n % 16) (by omega)
      have HA : ∀ W, (Op.stringOp .add (bs (hexL (n / 16))) (bs [hexDig (n % 16)])).run Tryd.prog W = .ok (.string (bs (hexL n))) W := fun W => by
        rw [add_bs _ _ (by simp; omega) W, hexL_big h]
      have h1 : ¬ (n : Int) < 16 := by omega
      have q1 : IntKind.u64.wrap ((n : Int) / 16) = (n : Int) / 16 := by simp only [IntKind.wrap_u64]; omega
      have q2 : IntKind.u64.wrap ((n : Int) % 16) = (n : Int) % 16 := by simp only [IntKind.wrap_u64]; omega
      have q3 : IntKind.u64.wrap ((n : Int) % 16 + 1) = (n : Int) % 16 + 1 := by simp only [IntKind.wrap_u64]; omega
      have q4 : ((n : Int) % 16).toNat = n % 16 := by omega
      have q5 : ((n : Int) % 16 + 1).toNat = n % 16 + 1 := by omega
      have q6 : 0 ≤ (n : Int) % 16 := by omega
      have q7 : 0 ≤ (n : Int) % 16 + 1 := by omega
      have q8 : (n : Int) % 16 ≤ (n : Int) % 16 + 1 := by omega
      have q9 : (n : Int) % 16 + 1 ≤ 16 := by omega
      have q10 : n % 16 + 1 ≤ 16 := by omega
      clear ih hn h hlen
      go_enter Tryd.func76, Tryd.ntmps76
      go_wp2_with fail
      go_quiet ((go_at_call 76; exact Calls.quiet_of (IH.out _)))
      go_wp2
      go_ret
      exact ⟨rfl, _, rfl⟩

theorem below_drewN2 {B : Nat} {w w' : World} {m : Nat} (h : w' = w.drewN m) : Below B w w' := by
  subst h
  exact below_drewN (Below.refl _ _) m

set_option maxHeartbeats 1000000 in
theorem rustDecimal_any : ∀ (n : Nat), n ≤ 18446744073709551615 → ∀ w : World,
    Calls Tryd.prog 50 #[.int .u64 (n : Int)] w fun e w' => e = .returned (.string (bs (decDigits n))) ∧ Below w.heap.size w w' := by
  intro n
  induction n using Nat.strongRecOn with
  | ind n ih =>
    intro hn w
    by_cases h : n < 10
    · rw [decDigits_small h]
      obtain ⟨D, hD⟩ : ∃ D, UInt8.ofNat (48 + n) = D := ⟨_, rfl⟩
      have hcv := convert_one (P := Tryd.prog) Tryd.underlying23 Tryd.underlying5 Tryd.underlying9 w (x := 48 + (n : Int)) (c := D) (by rw [← hD, digit_byte h]; omega) 5
      rw [hD]
      clear hD
      have h1 : (n : Int) < 10 := by omega
      clear ih hn
      go_enter Tryd.func50, Tryd.ntmps50
      go_wp2
      go_ret
      exact ⟨rfl, (Below.refl _ _).alloc (Nat.le_refl _) _⟩
    · have e1 : (((n / 10 : Nat)) : Int) = (n : Int) / 10 := by omega
      have e2 : (((n % 10 : Nat)) : Int) = (n : Int) % 10 := by omega
      have IH1 := ih (n / 10) (by omega) (by omega)
      have IH2 := ih (n % 10) (by omega) (by omega)
      rw [e1] at IH1
      rw [e2] at IH2
      replace IH1 := Lib.hid IH1
      replace IH2 := Lib.hid IH2
      clear e1 e2
      have hlen := decDigits_len 18 (n / 10) (by omega)
      have HA : ∀ W, (Op.stringOp .add (bs (decDigits (n / 10))) (bs (decDigits (n % 10)))).run Tryd.prog W = .ok (.string (bs (decDigits n))) W := fun W => by
        rw [decDigits_small (n := n % 10) (by omega), add_bs _ _ (by simp; omega) W, decDigits_big h]
      have h1 : ¬ (n : Int) < 10 := by omega
      have q1 : IntKind.u64.wrap ((n : Int) / 10) = (n : Int) / 10 := by simp only [IntKind.wrap_u64]; omega
      have q2 : IntKind.u64.wrap ((n : Int) % 10) = (n : Int) % 10 := by simp only [IntKind.wrap_u64]; omega
      clear ih hn h hlen
      go_enter Tryd.func50, Tryd.ntmps50
      go_wp2_with fail
      refine (IH1.out _).mono ?_
      rintro e w1 ⟨rfl, hb1⟩
      go_wp2_with fail
      refine (IH2.out _).mono ?_
      rintro e w2 ⟨rfl, hb2⟩
      go_wp2_with fail
      go_ret
      exact ⟨rfl, hb1.trans (hb2.mono hb1.size)⟩

/-! In base 62. -/
theorem ext_dig62 (k : Nat) (h : k < 62) : (ByteArray.mk #[48, 49, 50, 51, 52, 53, 54, 55, 56, 57, 97, 98, 99, 100, 101, 102, 103, 104, 105, 106, 107, 108, 109, 110, 111, 112, 113, 114, 115, 116, 117, 118, 119, 120, 121, 122, 65, 66, 67, 68, 69, 70, 71, 72, 73, 74, 75, 76, 77, 78, 79, 80, 81, 82, 83, 84, 85, 86, 87, 88, 89, 90]).extract k (k + 1) = bs [dig k] := by
  show (bs digTab).extract _ _ = _
  rw [bs_extract]
  congr 1
  have : ∀ j, j < 62 → (digTab.drop j).take (j + 1 - j) = [dig j] := by decide +kernel
  exact this _ h

section
attribute [local go_sem] ext_dig bs_append bs_cat
set_option maxHeartbeats 1000000 in
theorem rustBase62_any (n : Nat) (hn : n ≤ 18446744073709551615) (w : World) :
    Calls Tryd.prog 78 #[.int .u64 (n : Int)] w fun e w' => e = .returned (.string (bs (b62of n))) ∧ w = w' := by
  by_cases h0 : n = 0
  · subst h0
    go_enter Tryd.func78, Tryd.ntmps78
    go_wp2
    go_ret
    exact ⟨rfl, rfl⟩
  · obtain ⟨m, rfl⟩ : ∃ m, n = m + 1 := ⟨n - 1, by omega⟩
    have hlen := Lib.hid (b62of_length (m + 1) hn)
    have hdef := Lib.hid (show digsAcc (m / 62) (dig (m % 62) :: ([] ++ [95])) = b62of (m + 1) by rw [b62of, if_neg (by omega)]; rfl)
    have hz : (((m + 1 : Nat) : Int) == 0) = false := by simp; omega
    have hz2 : ((m : Int) + 1 == 0) = false := by simp; omega
    go_enter Tryd.func78, Tryd.ntmps78
    go_wp2
    go_loop [0, 3] (fun q v => ∃ (k : Nat) (acc : List UInt8), q = .int .u64 k ∧ v = .string (bs acc) ∧ Hid (digsAcc (k / 62) (dig (k % 62) :: (acc ++ [95])) = b62of (m + 1)) ∧ k ≤ 18446744073709551615 ∧ acc.length ≤ 20) (fun q _ => (intOf q).toNat)
    case atStart => exact ⟨m, [], rfl, rfl, hdef, by omega, by simp⟩
    case round =>
      obtain ⟨k, acc, rfl, rfl, hd, hk, hl⟩ := hrel
      by_cases hk0 : k < 62
      · have HE := Lib.hid (ext_dig62 k hk0)
        have h1 : ¬ 62 ≤ (k : Int) := by omega
        have h2 : (k : Int) < 62 := by omega
        have e := hd.out
        rw [show k / 62 = 0 by omega, digsAcc_zero, show k % 62 = k by omega] at e
        replace e := Lib.hid e
        clear hd hk0
        go_wp2
        go_ret
        refine ⟨?_, rfl⟩
        rw [HE.out, bs_append, bs_cat, ← e.out]
        simp
      · have h1 : 62 ≤ (k : Int) := by omega
        have hk1 : 62 ≤ k := by omega
        clear hk0
        go_wp2
        go_round
        case rel =>
          have e := hd.out
          rw [digsAcc_pos (by omega)] at e
          refine ⟨k / 62, _, rfl, rfl, e, by omega, ?_⟩
          have h1 := digsAcc_ge (k / 62 / 62) (dig (k / 62 % 62) :: dig (k % 62) :: (acc ++ [95]))
          rw [e] at h1
          have h2 := hlen.out
          simp at h1 ⊢
          omega
        case measure => simp [intOf]; omega

theorem reference_any (n : Nat) (hn : n ≤ 18446744073709551615) (w : World) :
    Calls Tryd.prog 49 #[.int .u64 (n : Int)] w fun e w' => e = .returned (.string (bs (66 :: b62of n))) ∧ w = w' := by
  have H := Lib.hid (rustBase62_any n hn)
  have hb := b62of_length n hn
  have HA : ∀ W, (Op.stringOp .add ⟨#[66]⟩ (bs (b62of n))).run Tryd.prog W = .ok (.string (bs (66 :: b62of n))) W := add_bs [66] _ (by simp; omega)
  clear hn hb
  go_enter Tryd.func49, Tryd.ntmps49
  go_wp2_with (go_at_call 78; refine (H.out _).mono ?_; rintro e w2 ⟨rfl, rfl⟩)
  go_ret
  exact ⟨rfl, rfl⟩
end

/-! The letters of integers. -/
theorem six {i : Int} (hi : (Lit.int .i64 i).wf = true) : ∃ k : Nat, (k = 0 ∨ k = 1 ∨ k = 2 ∨ k = 3 ∨ k = 4 ∨ k = 5) ∧ (wrap64 (i.tmod 6 + 6)).tmod 6 = (k : Int) := by
  have h1 := Int.tmod_lt_of_pos i (show (0:Int) < 6 by decide)
  have h2 : -6 < i.tmod 6 := by
    have := Int.tmod_lt_of_pos (-i) (show (0:Int) < 6 by decide)
    rw [Int.neg_tmod] at this
    omega
  have e : wrap64 (i.tmod 6 + 6) = i.tmod 6 + 6 := by unfold wrap64; omega
  rw [e, Int.tmod_eq_emod_of_nonneg (by omega)]
  refine ⟨((i.tmod 6 + 6) % 6).toNat, by omega, by omega⟩

def uLetter (k : Nat) : UInt8 := ([104, 116, 109, 121, 111, 106] : List UInt8).getD k 0
def sLetter (k : Nat) : UInt8 := ([97, 115, 108, 120, 110, 105] : List UInt8).getD k 0
def bitsU (k : Nat) : Nat := ([8, 16, 32, 64, 64, 64] : List Nat).getD k 0


/-- How many bits a letter's type has, and whether it has a sign. -/
def bitsOf (c : UInt8) : Nat × Bool :=
  if c = 97 then (8, true) else if c = 115 then (16, true) else if c = 108 then (32, true) else if c = 120 ∨ c = 110 ∨ c = 105 then (64, true)
  else if c = 104 then (8, false) else if c = 116 then (16, false) else if c = 109 then (32, false) else if c = 121 ∨ c = 111 ∨ c = 106 then (64, false) else (0, false)
def intLetters : List UInt8 := [97, 115, 108, 120, 110, 105, 104, 116, 109, 121, 111, 106]

theorem rustBits_yes {c : UInt8} (h : c ∈ intLetters) (w : World) :
    Calls Tryd.prog 93 #[.int .u8 (c.toNat : Int)] w fun e w' => e = .returned (.tuple #[.int .u64 ((bitsOf c).1 : Int), .bool (bitsOf c).2]) ∧ w = w' := by
  simp only [intLetters, List.mem_cons, List.mem_nil_iff, or_false] at h
  rcases h with rfl | rfl | rfl | rfl | rfl | rfl | rfl | rfl | rfl | rfl | rfl | rfl
  all_goals
    go_enter Tryd.func93, Tryd.ntmps93
    go_wp2
    go_ret2
    exact ⟨rfl, rfl⟩
theorem forall_byte {p : UInt8 → Bool} (h : ((List.range 256).all fun n => p (UInt8.ofNat n)) = true) (c : UInt8) : p c = true := by
  have := List.all_eq_true.1 h c.toNat (List.mem_range.2 c.toNat_lt)
  simpa using this
theorem rustBits_no {c : UInt8} (h : c ∉ intLetters) (w : World) :
    Calls Tryd.prog 93 #[.int .u8 (c.toNat : Int)] w fun e w' => e = .returned (.tuple #[.int .u64 ((bitsOf c).1 : Int), .bool (bitsOf c).2]) ∧ w = w' := by
  have hn := forall_byte (p := fun c => intLetters.contains c || ([97, 115, 108, 120, 110, 105, 104, 116, 109, 121, 111, 106].all (fun k : Int => !((c.toNat : Int) == k)) && bitsOf c == (0, false))) (by kernel_rfl) c
  rw [Bool.or_eq_true] at hn
  replace hn := hn.resolve_left (by simpa using h)
  rw [Bool.and_eq_true] at hn
  obtain ⟨hn, he⟩ := hn
  rw [List.all_eq_true] at hn
  simp only [List.mem_cons, List.mem_nil_iff, or_false, forall_eq_or_imp, forall_eq, Bool.not_eq_true'] at hn
  obtain ⟨h1, h2, h3, h4, h5, h6, h7, h8, h9, h10, h11, h12⟩ := hn
  rw [eq_of_beq he]
  clear h he
  go_enter Tryd.func93, Tryd.ntmps93
  go_wp2
  go_ret2
  exact ⟨rfl, rfl⟩
theorem rustBits_any (c : UInt8) (w : World) :
    Calls Tryd.prog 93 #[.int .u8 (c.toNat : Int)] w fun e w' => e = .returned (.tuple #[.int .u64 ((bitsOf c).1 : Int), .bool (bitsOf c).2]) ∧ w = w' := by
  by_cases h : c ∈ intLetters
  · exact rustBits_yes h w
  · exact rustBits_no h w
end Go.Proofs.YtokjbdofpdncdaaDoor
