/- FnHugeNumberRefused: the walk. -/
import Derived.Test.YtoefegbbnaonoaaDoorLawRef
namespace Go.Proofs.YtoefegbbnaonoaaDoor
open Go.RowKit Go.Lib
set_option linter.unusedVariables false
set_option maxRecDepth 100000
attribute [local go_sem] bs_size bs_toList bs_to

theorem anNumber_any {w : World} {B : Nat} (hp : Pow w B) (n : Nat) (hn : n ≤ 9223372036854775807) :
    Calls Tryd.prog 17 #[.int .i64 (n : Int)] w fun e w' => e = .returned (.string (bs (decDigits n))) ∧ Below w.heap.size w w' := by
  have H := Lib.hid (itoa_any hp n hn)
  clear hp hn
  go_enter Tryd.func17, Tryd.ntmps17
  go_wp2_with (go_at_call 28; refine (H.out).mono ?_; rintro e w2 ⟨rfl, hb2⟩)
  go_ret
  exact ⟨rfl, hb2⟩
theorem anDigit_any {w : World} {B : Nat} (hp : Pow w B) (n : Nat) (hn : n < 10) :
    Calls Tryd.prog 17 #[.int .i64 (n : Int)] w fun e w' => e = .returned (.string (bs [UInt8.ofNat (48 + n)])) ∧ Below w.heap.size w w' := by
  have := anNumber_any hp n (by omega)
  rw [decDigits_small hn] at this
  exact this

def NumRel (w : World) (m g : Nat) (v u : Value) (wr : World) : Prop :=
  ∃ (k : Nat) (ds : List UInt8), v = .string (bs (49 :: ds)) ∧ u = .int .i64 (k : Int) ∧ k + g = 18 + m ∧ ds.length = k ∧ (∀ c ∈ ds, isDig c = true) ∧ Below w.heap.size w wr

set_option maxHeartbeats 2000000 in
theorem huge_walk (w : World) (hL : Pow w w.heap.size ∧ NotM w w.heap.size) (A1 : Option Addr) (n1 cap1 : Nat) (l1 : List UInt8) (hA1 : Bytes w A1 n1 l1) (hn1 : n1 ≤ maxLen ∧ n1 ≤ cap1) (A : Option Addr) (n cap : Nat) (l : List UInt8) (hA : Bytes w A n l) (hn : n ≤ maxLen ∧ n ≤ cap) :
    Calls Tryd.prog 6 #[.slice A1 n1 cap1, .slice A n cap] w fun e w' => e = .returned (.bool true) ∧ Below w.heap.size w w' := by
  by_cases hz1 : 2147483647 < n1
  · have hz' : decide ((2147483647:Int) < (n1 : Int)) = true := decide_eq_true (by omega)
    clear hz1
    go_enter Tryd.func6, Tryd.ntmps6
    go_wp2_with fail
    go_ret
    exact ⟨rfl, Below.refl _ _⟩
  have hz1' : decide ((2147483647:Int) < (n1 : Int)) = false := decide_eq_false (by omega)
  by_cases hz : 2147483647 < n
  · have hz' : decide ((2147483647:Int) < (n : Int)) = true := decide_eq_true (by omega)
    clear hz hz1
    go_enter Tryd.func6, Tryd.ntmps6
    go_wp2_with fail
    go_ret
    exact ⟨rfl, Below.refl _ _⟩
  have hz' : decide ((2147483647:Int) < (n : Int)) = false := decide_eq_false (by omega)
  obtain ⟨m, hm⟩ : ∃ m : Nat, n % 42 = m := ⟨_, rfl⟩
  have hm42 : m < 42 := by omega
  have q1 : (n : Int).tmod 42 = (m : Int) := by rw [Int.tmod_eq_emod_of_nonneg (by omega)]; omega
  have q1' : (n : Int) % 42 = (m : Int) := by omega
  have hT := hA1.take (min n1 1000) (by omega)
  have hpl := wordOf_plain (l1.take (min n1 1000))
  have hpln := wordOf_length (l1.take (min n1 1000)) (by simp; omega)
  have HC := Lib.hid (fun W : World => idCut_any (w := W) (A := A1) hn1.2)
  have HP := Lib.hid (fun (W : World) (hW : Below w.heap.size w W) => anWord_any (cap := cap1) (hT.below hW) (by omega))
  have hB := fun (ds : List UInt8) (hd : ∀ c ∈ ds, isDig c = true) (hlen : ds.length = 18 + m) (W : World) (hW : Below w.heap.size w W) => idRefused_yes (w := W) ((hL.1.keep hW (Nat.le_refl _)).up hW.size (Nat.le_refl _)) (by have := hL.2.keep hW (Nat.le_refl _); exact ⟨Nat.lt_of_lt_of_le this.1 hW.size, Nat.le_refl _, this.2.2⟩) (falls_huge (l := wordOf (l1.take (min n1 1000))) hd (by omega) (by omega) hpl (by omega))
  replace hB := Lib.hid hB
  generalize wordOf (l1.take (min n1 1000)) = P at *
  have HN := Lib.hid (fun (d : Nat) (hd : d < 10) (W : World) (hW : Below w.heap.size w W) => anDigit_any (hL.1.keep hW (Nat.le_refl _)) d hd)
  have HA := Lib.hid hA
  have hnn : n ≤ 2147483647 := by omega
  clear hz hz1 hm hA hA1 hT hpl hL hn hn1
  go_enter Tryd.func6, Tryd.ntmps6
  go_wp2_with fail
  go_loopg [5, 20] (18 + m) (fun g v u wr => NumRel w m g v u wr)
  case atStart => exact ⟨0, [], rfl, rfl, by omega, rfl, by simp, Below.refl _ _⟩
  case round =>
    obtain ⟨k, ds, rfl, rfl, hg, hdl, hds, hbel⟩ := hrel
    by_cases hk : k < 18 + m
    · have hadd : ∀ (c : UInt8) W, (Op.stringOp .add (bs (49 :: ds)) (bs [c])).run Tryd.prog W = .ok (.string (bs (49 :: (ds ++ [c])))) W := fun c W => add_bs (49 :: ds) [c] (by simp; omega) W
      have HDS := Lib.hid hds
      clear hds
      have t0 : (k : Int) < 18 + (m : Int) := by omega
      by_cases hkn : k < n
      · have t1 : (k : Int) < (n : Int) := by omega
        obtain ⟨hlen, h | ⟨b, off, rfl, hlt, hc⟩⟩ := HA.out
        · exfalso
          rw [h] at hlen
          simp at hlen
          omega
        have ck : wr.cell? ⟨b, off + k, none⟩ = some (.int .u8 ((l[k]'(by omega)).toNat : Int)) := (hbel.cell (p := ⟨b, off + k, none⟩) hlt).trans (hc k (by omega))
        obtain ⟨c, hcc⟩ : ∃ c, l[k]'(by omega) = c := ⟨_, rfl⟩
        rw [hcc] at ck
        obtain ⟨d, hd⟩ : ∃ d : Nat, c.toNat % 10 = d := ⟨_, rfl⟩
        have hd10 : d < 10 := by omega
        have q2 : (wrap64 (c.toNat : Int)).tmod 10 = (d : Int) := by
          have := c.toNat_lt
          rw [show wrap64 (c.toNat : Int) = (c.toNat : Int) by unfold wrap64; omega, Int.tmod_eq_emod_of_nonneg (by omega)]
          omega
        have q2' : (c.toNat : Int) % 10 = (d : Int) := by omega
        have HND := HN.out d hd10 wr hbel
        have HDig := digit_isDig hd10
        generalize UInt8.ofNat (48 + d) = D at HND HDig
        replace HND := Lib.hid HND
        replace HDig := Lib.hid HDig
        clear hc hcc hd hlen
        go_wp2_with (go_at_call 17; refine (HND.out).mono ?_; rintro e w2 ⟨rfl, hb2⟩)
        go_roundg (18 + m - (k + 1))
        case measure => omega
        case rel =>
          refine ⟨k + 1, ds ++ [D], rfl, by go_num, by omega, by simp; omega, ?_, hbel.trans (hb2.mono hbel.size)⟩
          intro x hx
          rcases List.mem_append.1 hx with hx | hx
          · exact HDS.out x hx
          · rw [List.mem_singleton.1 hx]
            exact HDig.out
      · have t1 : ¬ (k : Int) < (n : Int) := by omega
        have HND := Lib.hid (HN.out 7 (by decide) wr hbel)
        go_wp2_with (go_at_call 17; refine (HND.out).mono ?_; rintro e w2 ⟨rfl, hb2⟩)
        go_roundg (18 + m - (k + 1))
        case measure => omega
        case rel =>
          refine ⟨k + 1, ds ++ [UInt8.ofNat (48 + 7)], rfl, by go_num, by omega, by simp; omega, ?_, hbel.trans (hb2.mono hbel.size)⟩
          intro x hx
          rcases List.mem_append.1 hx with hx | hx
          · exact HDS.out x hx
          · rw [List.mem_singleton.1 hx]
            exact digit_isDig (d := 7) (by decide)
    · have hk2 : k = 18 + m := by omega
      have t0 : ¬ (k : Int) < 18 + (m : Int) := by omega
      have a1 : ∀ W, (Op.stringOp .add ⟨#[95, 82, 67]⟩ (bs (49 :: ds))).run Tryd.prog W = .ok (.string (bs (95 :: 82 :: 67 :: 49 :: ds))) W := add_bs [95, 82, 67] _ (by simp; omega)
      have a2 : ∀ W, (Op.stringOp .add (bs (95 :: 82 :: 67 :: 49 :: ds)) (bs P)).run Tryd.prog W = .ok (.string (bs (95 :: 82 :: 67 :: 49 :: (ds ++ P)))) W := fun W => by rw [add_bs (95 :: 82 :: 67 :: 49 :: ds) P (by simp; omega) W]; simp
      have HR := Lib.hid (fun (W : World) (hW : Below w.heap.size w W) => hB.out ds hds (by omega) W hW)
      have HW := Lib.hid (HP.out wr hbel)
      clear hds hk hk2 hg hdl
      go_wp2_with (first
        | (go_at_call 16; refine (HC.out _).mono ?_; rintro e w1 ⟨rfl, rfl⟩)
        | (go_at_call 18; refine (HW.out).mono ?_; rintro e w2 ⟨rfl, hb2⟩; replace hb2 := hbel.trans (hb2.mono hbel.size))
        | (go_at_call 11; refine (HR.out _ hb2).mono ?_; rintro e w3 ⟨rfl, hb3⟩))
      go_ret
      exact ⟨rfl, hb2.trans (hb3.mono hb2.size)⟩
end Go.Proofs.YtoefegbbnaonoaaDoor
