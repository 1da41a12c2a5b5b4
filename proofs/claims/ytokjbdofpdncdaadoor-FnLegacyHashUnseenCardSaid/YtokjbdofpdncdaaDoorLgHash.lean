/- The hash of an old-style name: the walks. -/
import Derived.Test.YtokjbdofpdncdaaDoorLgBits
import Derived.Test.YtokjbdofpdncdaaDoorArg
import Derived.OwnWalk
import Derived.Deep.LoopGhost
import Derived.Lib.Tables
namespace Go.Proofs.YtokjbdofpdncdaaDoor
open Go.RowKit Go.Lib Go.WideShapes Go.ChangeShapes
set_option linter.unusedVariables false
set_option maxRecDepth 100000
attribute [local go_sem] bs_size

/-- Which digits have been seen. -/
def seenA (m : Nat) : Array Value := #[.bool (m.testBit 0), .bool (m.testBit 1), .bool (m.testBit 2), .bool (m.testBit 3), .bool (m.testBit 4), .bool (m.testBit 5), .bool (m.testBit 6), .bool (m.testBit 7), .bool (m.testBit 8), .bool (m.testBit 9), .bool (m.testBit 10), .bool (m.testBit 11), .bool (m.testBit 12), .bool (m.testBit 13), .bool (m.testBit 14), .bool (m.testBit 15)]
theorem lt16 {d : Nat} (h : d < 16) : d = 0 ∨ d = 1 ∨ d = 2 ∨ d = 3 ∨ d = 4 ∨ d = 5 ∨ d = 6 ∨ d = 7 ∨ d = 8 ∨ d = 9 ∨ d = 10 ∨ d = 11 ∨ d = 12 ∨ d = 13 ∨ d = 14 ∨ d = 15 := by omega
theorem seenA_get {m d : Nat} (h : d < 16) : (seenA m)[d]? = some (.bool (m.testBit d)) := by
  rcases lt16 h with rfl | rfl | rfl | rfl | rfl | rfl | rfl | rfl | rfl | rfl | rfl | rfl | rfl | rfl | rfl | rfl <;> rfl
theorem seenA_set {m d : Nat} (h : d < 16) : (seenA m).setIfInBounds d (.bool true) = seenA (m ||| 2 ^ d) := by
  unfold seenA
  simp only [Nat.testBit_or, Nat.testBit_two_pow]
  rcases lt16 h with rfl | rfl | rfl | rfl | rfl | rfl | rfl | rfl | rfl | rfl | rfl | rfl | rfl | rfl | rfl | rfl <;> simp
theorem seenA_zero : seenA 0 = #[.bool false, .bool false, .bool false, .bool false, .bool false, .bool false, .bool false, .bool false, .bool false, .bool false, .bool false, .bool false, .bool false, .bool false, .bool false, .bool false] := by kernel_rfl
theorem seenA_same {m d : Nat} (h : m.testBit d = true) : m ||| 2 ^ d = m := by
  refine Nat.eq_of_testBit_eq fun i => ?_
  rw [Nat.testBit_or, Nat.testBit_two_pow]
  by_cases e : d = i
  · subst e; simp [h]
  · simp [e]

def HashRel (w : World) (l : List UInt8) (m : Nat) (v d u : Value) (wr : World) : Prop :=
  ∃ k : Nat, u = .int .i64 (k : Int) ∧ k + m = 16 ∧ v = .string (bs (hashK l k)) ∧ d = .int .i64 (pop16 (maskH (hashK l k)) : Int) ∧ Blk wr w.heap.size 84 (seenA (maskH (hashK l k))) ∧ Below w.heap.size w wr
theorem pop16_le (m : Nat) : pop16 m ≤ 16 := by
  rw [pop16_two]
  have := popLo_le (m / 256)
  have := popLo_le (m % 256)
  omega
theorem rem16 (c : UInt8) : (wrap64 (c.toNat : Int)).tmod 16 = ((c.toNat % 16 : Nat) : Int) := by
  have := c.toNat_lt
  have e : wrap64 (c.toNat : Int) = (c.toNat : Int) := by unfold wrap64; omega
  rw [e, Int.tmod_eq_emod_of_nonneg (by omega)]
  omega

set_option maxHeartbeats 4000000 in
theorem lgHashS_any {w : World} {A : Option Addr} {n cn : Nat} {l : List UInt8} (hA : Bytes w A n l) (hn : n ≤ maxLen) :
    Calls Tryd.prog 21 #[.slice A n cn] w fun e w' => e = .returned (.tuple #[.string (bs (hashK l 16)), .int .i64 (pop16 (maskH (hashK l 16)) : Int)]) ∧ Below w.heap.size w w' := by
  obtain ⟨rfl, hA⟩ := hA
  have HA := Lib.hid hA
  unfold maxLen at hn
  clear hA
  have HB := Lib.hid ((Below.refl w.heap.size w).alloc (Nat.le_refl _) (.cells (seenA 0) 84))
  have HK := Lib.hid (show Blk (w.alloc (.cells (seenA 0) 84)) w.heap.size 84 (seenA 0) from Blk.new _ _ _)
  rw [seenA_zero] at HB HK
  go_enter Tryd.func21, Tryd.ntmps21
  go_wp2_with fail
  go_loopg [4, 6, 10] 16 (fun m v d u wr => HashRel w l m v d u wr)
  case atStart => exact ⟨0, rfl, by omega, rfl, by kernel_rfl, by rw [show maskH (hashK l 0) = 0 from rfl, seenA_zero]; exact HK.out, HB.out⟩
  case round =>
    clear HB HK
    obtain ⟨k, rfl, hg, rfl, rfl, hK, hb⟩ := hrel
    by_cases hk : k < 16
    · have hdl := digAt_lt l k
      have hnx := hashK_next l k
      have hmx := maskK_next l k
      have hpx := pop16_or (m := maskH (hashK l k)) hdl
      have hle := pop16_le (maskH (hashK l k))
      have hlen := hashK_len l k
      have hex := ext_hx _ hdl
      have ck2 : wr.cell? ⟨w.heap.size, digAt l k, none⟩ = some (.bool ((maskH (hashK l k)).testBit (digAt l k))) := (hK.cell _).trans (seenA_get hdl)
      have fk2 := hK.frozen (digAt l k)
      have a1 : ∀ W, (Op.stringOp .add (bs (hashK l k)) (bs [hx (digAt l k)])).run Tryd.prog W = .ok (.string (bs (hashK l (k + 1)))) W := fun W => by
        rw [add_bs _ _ (by rw [hlen]; simp; omega) W, hnx]
      have hset := seenA_set (m := maskH (hashK l k)) hdl
      have hsame := seenA_same (m := maskH (hashK l k)) (d := digAt l k)
      have hbit : bit (maskH (hashK l k)) (digAt l k) = if (maskH (hashK l k)).testBit (digAt l k) then 1 else 0 := rfl
      have hdd : k < l.length → digAt l k = (l.getD k 0).toNat % 16 := fun h => if_pos h
      have hd0 : ¬ k < l.length → digAt l k = 0 := fun h => if_neg h
      have hset' := Lib.hid hset
      have hKK := Lib.hid hK
      rw [← hmx] at hpx hset' hsame
      generalize hD : digAt l k = D at *
      generalize hashK l k = H at *
      obtain ⟨H2, hH2⟩ : ∃ X, hashK l (k + 1) = X := ⟨_, rfl⟩
      rw [hH2] at a1 hpx hset' hsame
      have HH2 := Lib.hid hH2
      clear hnx hmx hset hD hK hH2 hlen
      generalize hB : (maskH H).testBit D = B at *
      have q1 : ((D : Int)).toNat = D := by omega
      have q2 : (D : Int) + 1 ≤ 16 := by omega
      by_cases hkl : k < l.length
      · rcases HA.out with h0 | ⟨b, off, rfl, hlt, hc⟩
        · rw [h0] at hkl; cases hkl
        have ck := (hb.cell (p := ⟨b, off + k, none⟩) hlt).trans (hc k hkl)
        have hr : (wrap64 (l[k].toNat : Int)).tmod 16 = (D : Int) := by
          rw [rem16, hdd hkl]
          simp [List.getD, List.getElem?_eq_getElem hkl]
        generalize l[k] = c at ck hr
        clear hc hdd hd0
        cases B with
        | true =>
          have e2 := hsame rfl
          simp only [if_true] at hbit
          rw [hbit] at hpx
          clear hset' hsame
          go_wp2_with fail
          go_roundg (16 - (k + 1))
          case measure => omega
          case rel => exact ⟨k + 1, by go_num, by omega, by rw [HH2.out], by rw [HH2.out]; congr 1; omega, by rw [HH2.out, e2]; exact hKK.out, hb⟩
        | false =>
          simp only [Bool.false_eq_true, if_false] at hbit
          rw [hbit] at hpx
          clear hsame
          go_wp2_with fail
          go_roundg (16 - (k + 1))
          case measure => omega
          case rel =>
            have hn := hKK.out.set_ D (.bool true)
            rw [hset'.out] at hn
            exact ⟨k + 1, by go_num, by omega, by rw [HH2.out], by rw [HH2.out]; go_num, by rw [HH2.out]; exact hn, hb.setCell (p := ⟨w.heap.size, D, none⟩) (Nat.le_refl _) _⟩
      · have hD0 : D = 0 := hd0 hkl
        subst hD0
        clear hdd hd0
        cases B with
        | true =>
          have e2 := hsame rfl
          simp only [if_true] at hbit
          rw [hbit] at hpx
          clear hset' hsame
          go_wp2_with fail
          go_roundg (16 - (k + 1))
          case measure => omega
          case rel => exact ⟨k + 1, by go_num, by omega, by rw [HH2.out], by rw [HH2.out]; congr 1; omega, by rw [HH2.out, e2]; exact hKK.out, hb⟩
        | false =>
          simp only [Bool.false_eq_true, if_false] at hbit
          rw [hbit] at hpx
          clear hsame
          go_wp2_with fail
          go_roundg (16 - (k + 1))
          case measure => omega
          case rel =>
            have hn := hKK.out.set_ 0 (.bool true)
            rw [hset'.out] at hn
            exact ⟨k + 1, by go_num, by omega, by rw [HH2.out], by rw [HH2.out]; go_num, by rw [HH2.out]; exact hn, hb.setCell (p := ⟨w.heap.size, 0, none⟩) (Nat.le_refl _) _⟩
    · obtain rfl : k = 16 := by omega
      go_wp2_with fail
      go_ret2
      exact ⟨rfl, hb⟩

theorem lgHash_any {w : World} {A : Option Addr} {n cn : Nat} {l : List UInt8} (hA : Bytes w A n l) (hn : n ≤ maxLen) :
    Calls Tryd.prog 8 #[.slice A n cn] w fun e w' => e = .returned (.tuple #[.string (bs (hashK l 16)), .bool (decide (8 ≤ pop16 (maskH (hashK l 16))))]) ∧ Below w.heap.size w w' := by
  have H := Lib.hid (lgHashS_any (cn := cn) hA hn)
  have hd : decide ((8 : Int) ≤ (pop16 (maskH (hashK l 16)) : Int)) = decide (8 ≤ pop16 (maskH (hashK l 16))) := by
    by_cases h : 8 ≤ pop16 (maskH (hashK l 16))
    · rw [decide_eq_true h, decide_eq_true (by omega)]
    · rw [decide_eq_false h, decide_eq_false (by omega)]
  generalize hp : pop16 (maskH (hashK l 16)) = p at *
  clear hA hn hp
  by_cases h8 : 8 ≤ p
  · have h8' : (8 : Int) ≤ (p : Int) := by omega
    rw [decide_eq_true h8]
    clear hd h8
    go_enter Tryd.func8, Tryd.ntmps8
    go_wp2_with (go_at_call 21; refine (H.out).mono ?_; rintro e w2 ⟨rfl, hb2⟩)
    go_ret2
    exact ⟨rfl, hb2⟩
  · have h8' : ¬ (8 : Int) ≤ (p : Int) := by omega
    have h9 := Lib.hid (decide_eq_false h8')
    rw [decide_eq_false h8]
    clear hd h8
    go_enter Tryd.func8, Tryd.ntmps8
    go_wp2_with (go_at_call 21; refine (H.out).mono ?_; rintro e w2 ⟨rfl, hb2⟩)
    go_ret2
    refine ⟨?_, hb2⟩
    show Ending.returned (.tuple #[.string (bs (hashK l 16)), .bool (decide ((8 : Int) ≤ (p : Int)))]) = _
    rw [h9.out]

/-! The program's side: a digit; how many bits. -/
theorem hexDigit_any {c : UInt8} (h : hexLo c = some (hexV c)) (w : World) :
    Calls Tryd.prog 58 #[.int .u8 (c.toNat : Int)] w fun e w' => e = .returned (.tuple #[.int .u8 (hexV c : Int), .bool true]) ∧ w' = w := by
  have hlt := c.toNat_lt
  generalize hexV c = v at h ⊢
  unfold hexLo at h
  by_cases h1 : 48 ≤ c.toNat ∧ c.toNat ≤ 57
  · rw [if_pos h1] at h
    simp only [Option.some.injEq] at h
    have t1 : 48 ≤ (c.toNat : Int) := by omega
    have t2 : (c.toNat : Int) ≤ 57 := by omega
    go_enter Tryd.func58, Tryd.ntmps58
    go_wp2
    go_ret2
    refine ⟨?_, rfl⟩
    show Ending.returned (.tuple #[.int .u8 ((c.toNat : Int) - 48), .bool true]) = _
    rw [show ((c.toNat : Int) - 48) = (v : Int) by omega]
  · rw [if_neg h1] at h
    by_cases h2 : 97 ≤ c.toNat ∧ c.toNat ≤ 102
    · rw [if_pos h2] at h
      simp only [Option.some.injEq] at h
      have t1 : 48 ≤ (c.toNat : Int) := by omega
      have t2 : ¬ (c.toNat : Int) ≤ 57 := by omega
      have t3 : 97 ≤ (c.toNat : Int) := by omega
      have t4 : (c.toNat : Int) ≤ 102 := by omega
      go_enter Tryd.func58, Tryd.ntmps58
      go_wp2
      go_ret2
      refine ⟨?_, rfl⟩
      show Ending.returned (.tuple #[.int .u8 ((c.toNat : Int) - 97 + 10), .bool true]) = _
      rw [show ((c.toNat : Int) - 97 + 10) = (v : Int) by omega]
    · rw [if_neg h2] at h
      cases h

theorem bits_and_u16 (x : Nat) (hx : x < 65536) : bits BinOp.and IntKind.u16 (x : Int) 255 = (x : Int) % 256 := by
  have h : bits BinOp.and IntKind.u16 (x : Int) ((255 : Nat) : Int) = ((x &&& 255 : Nat) : Int) := by
    unfold bits
    simp only [IntKind.wrap_u16]
    show ((((BitVec.ofInt 16 (x : Int)) &&& (BitVec.ofInt 16 ((255 : Nat) : Int))).toNat : Nat) : Int) % 65536 = _
    rw [BitVec.ofInt_natCast, BitVec.ofInt_natCast, BitVec.toNat_and, BitVec.toNat_ofNat, BitVec.toNat_ofNat, Nat.mod_eq_of_lt (by omega), Nat.mod_eq_of_lt (by decide)]
    have : x &&& 255 < 65536 := Nat.lt_of_le_of_lt Nat.and_le_left hx
    omega
  rw [show (255 : Int) = ((255 : Nat) : Int) from rfl, h, show (255 : Nat) = 2 ^ 8 - 1 from rfl, Nat.and_two_pow_sub_one_eq_mod]
  omega
theorem bits_or_u16 (x y : Nat) (hx : x < 65536) (hy : y < 65536) : bits BinOp.or IntKind.u16 (x : Int) (y : Int) = ((x ||| y : Nat) : Int) := by
  unfold bits
  simp only [IntKind.wrap_u16]
  show ((((BitVec.ofInt 16 (x : Int)) ||| (BitVec.ofInt 16 (y : Int))).toNat : Nat) : Int) % 65536 = _
  rw [BitVec.ofInt_natCast, BitVec.ofInt_natCast, BitVec.toNat_or, BitVec.toNat_ofNat, BitVec.toNat_ofNat, Nat.mod_eq_of_lt (by omega), Nat.mod_eq_of_lt (by omega)]
  have : x ||| y < 65536 := Nat.or_lt_two_pow (n := 16) hx hy
  omega
theorem bits_or_u8 (x y : Nat) (hx : x < 256) (hy : y < 256) : bits BinOp.or IntKind.u8 (x : Int) (y : Int) = ((x ||| y : Nat) : Int) := by
  unfold bits
  simp only [IntKind.wrap_u8]
  show ((((BitVec.ofInt 8 (x : Int)) ||| (BitVec.ofInt 8 (y : Int))).toNat : Nat) : Int) % 256 = _
  rw [BitVec.ofInt_natCast, BitVec.ofInt_natCast, BitVec.toNat_or, BitVec.toNat_ofNat, BitVec.toNat_ofNat, Nat.mod_eq_of_lt (by omega), Nat.mod_eq_of_lt (by omega)]
  have : x ||| y < 256 := Nat.or_lt_two_pow (n := 8) hx hy
  omega
theorem pop8_nat : ∀ n : Nat, n < 256 → Lib.pop8 (n : Int) = (popLo n : Int) := by decide +kernel

theorem ones_any (x : Nat) (hx : x < 65536) (w : World) :
    Calls Tryd.prog 59 #[.int .u16 (x : Int)] w fun e w' => e = .returned (.int .i64 (pop16 x : Int)) ∧ ∃ m, w' = w.drewN m := by
  have e1 := bits_and_u16 x hx
  have h1 : 0 ≤ (x : Int) / 256 := by omega
  have h2 : (x : Int) / 256 ≤ 255 := by omega
  have p1 : Lib.pop8 ((x : Int) / 256) = (popLo (x / 256) : Int) := by
    rw [← pop8_nat (x / 256) (by omega)]
    congr 1
  have p2 : Lib.pop8 ((x : Int) % 256) = (popLo (x % 256) : Int) := by
    rw [← pop8_nat (x % 256) (by omega)]
    congr 1
  have l1 := popLo_le (x / 256)
  have l2 := popLo_le (x % 256)
  have e3 : (pop16 x : Int) = (popLo (x / 256) : Int) + (popLo (x % 256) : Int) := by rw [pop16_two]; omega
  rw [e3]
  generalize popLo (x / 256) = P at *
  generalize popLo (x % 256) = R at *
  clear e3 hx
  go_enter Tryd.func59, Tryd.ntmps59
  go_wp2
  go_region
  all_goals
    go_wp2
    go_ret
    exact ⟨rfl, 1, rfl⟩
end Go.Proofs.YtokjbdofpdncdaaDoor
