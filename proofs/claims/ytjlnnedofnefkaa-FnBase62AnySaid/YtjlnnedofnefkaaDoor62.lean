/- The reference's reader of a number in base 62, and that the package reads the same. -/
import Derived.Test.YtjlnnedofnefkaaSpecB62
import Derived.Deep.QuietTactic
import Derived.BigQuiet
namespace Go.Proofs.Ytjlnnedofnefkaa
open Go.RowKit
set_option linter.unusedVariables false
set_option maxRecDepth 100000
attribute [local go_sem] bs_size bs_from

def door62 (first : Bool) (n : Int) : List UInt8 → Int × List UInt8 × Int
  | [] => (0, [], 1)
  | c :: l => if c = 95 then (if first then 0 else n + 1, l, 0) else
    match dig62 c with
    | none => (0, [], 1)
    | some d => if 72057594037927936 ≤ n then (0, [], 2) else door62 false (62 * n + d) l

theorem dig62_range {c : UInt8} {d : Int} (h : dig62 c = some d) : 0 ≤ d ∧ d ≤ 61 := by
  unfold dig62 at h
  split at h
  · cases h; omega
  · split at h
    · cases h; omega
    · split at h
      · cases h; omega
      · cases h

theorem door62_same : ∀ (l : List UInt8) (n : Int), 0 ≤ n → n ≤ 4611686018427387903 →
    (∀ m r, door62 false n l = (m, r, 0) → b62go n l = some (m, r)) ∧ (∀ m r, door62 false n l = (m, r, 1) → b62go n l = none) := by
  intro l
  induction l with
  | nil => intro n _ _; exact ⟨fun m r h => by simp [door62] at h, fun m r _ => rfl⟩
  | cons c l ih =>
    intro n h0 h1
    by_cases hc : c = 95
    · subst hc
      constructor
      · intro m r h
        simp [door62] at h
        obtain ⟨rfl, rfl⟩ := h
        show some (wrap64 (n + 1), l) = _
        have : wrap64 (n + 1) = n + 1 := by unfold wrap64; omega
        rw [this]
      · intro m r h
        simp [door62] at h
    · cases hd : dig62 c with
      | none =>
        constructor
        · intro m r h; simp [door62, hc, hd] at h
        · intro m r _; simp [b62go, hc, hd]
      | some d =>
        obtain ⟨d0, d1⟩ := dig62_range hd
        by_cases hb : 72057594037927936 ≤ n
        · constructor
          · intro m r h; simp [door62, hc, hd, hb] at h
          · intro m r h; simp [door62, hc, hd, hb] at h
        · have e : wrap64 (wrap64 (n * 62) + d) = 62 * n + d := by unfold wrap64; omega
          have e2 : b62go n (c :: l) = b62go (62 * n + d) l := by rw [b62go_cons n l hc hd, e]
          have e3 : door62 false n (c :: l) = door62 false (62 * n + d) l := by
            conv => lhs; unfold door62
            rw [if_neg hc, hd]
            simp only
            rw [if_neg hb]
          rw [e2, e3]
          exact ih _ (by omega) (by omega)

theorem door62_first (l : List UInt8) : (∀ m r, door62 true 0 l = (m, r, 0) → b62 l = some (m, r)) ∧ (∀ m r, door62 true 0 l = (m, r, 1) → b62 l = none) := by
  cases l with
  | nil => exact ⟨fun m r h => by simp [door62] at h, fun m r _ => rfl⟩
  | cons c l =>
    by_cases hc : c = 95
    · subst hc
      constructor
      · intro m r h
        simp [door62] at h
        obtain ⟨rfl, rfl⟩ := h
        rfl
      · intro m r h
        simp [door62] at h
    · have e : b62 (c :: l) = b62go 0 (c :: l) := by simp [b62, hc]
      have e2 : door62 true 0 (c :: l) = door62 false 0 (c :: l) := by
        unfold door62
        rw [if_neg hc, if_neg hc]
      rw [e, e2]
      exact door62_same _ 0 (by decide) (by decide)

/-- The number of a digit, or -1. -/
def digOr (c : UInt8) : Int := (dig62 c).getD (-1)
theorem digOr_hit : ∀ k, k < 62 → digOr (dig k) = (k : Int) := by decide +kernel
theorem digOr_miss_all : ∀ m : Nat, m < 256 → (∀ j, j < 62 → (dig j).toNat ≠ m) → digOr (UInt8.ofNat m) = -1 := by decide +kernel
theorem digOr_miss (c : UInt8) (h : ∀ j, j < 62 → dig j ≠ c) : digOr c = -1 := by
  have := digOr_miss_all c.toNat (UInt8.toNat_lt c) (fun j hj e => h j hj (UInt8.toNat_inj.1 e))
  simpa using this

theorem doorDigit_any (c : UInt8) (w : World) :
    Calls Try.prog 28 #[.int .u8 (c.toNat : Int)] w fun e w' => e = .returned (.int .i64 (digOr c)) ∧ w = w' := by
  have hget : ∀ k (h : k < 62), ((ByteArray.mk #[48, 49, 50, 51, 52, 53, 54, 55, 56, 57, 97, 98, 99, 100, 101, 102, 103, 104, 105, 106, 107, 108, 109, 110, 111, 112, 113, 114, 115, 116, 117, 118, 119, 120, 121, 122, 65, 66, 67, 68, 69, 70, 71, 72, 73, 74, 75, 76, 77, 78, 79, 80, 81, 82, 83, 84, 85, 86, 87, 88, 89, 90])[k]'h) = dig k := by decide +kernel
  have HG := Lib.hid hget
  clear hget
  go_enter Try.func28, Try.ntmps28
  go_wp2
  go_loop [4] (fun i => ∃ k : Nat, k ≤ 62 ∧ i = .int .i64 k ∧ Hid (∀ j, j < k → dig j ≠ c)) (fun i => (62 - intOf i).toNat)
  case atStart => exact ⟨0, by omega, rfl, fun j h => by omega⟩
  case round =>
    obtain ⟨k, hk, rfl, hm⟩ := hrel
    by_cases hk2 : k < 62
    · have hg := HG.out k hk2
      by_cases hc : dig k = c
      · have hcb : (((dig k).toNat : Int) == (c.toNat : Int)) = true := by rw [hc]; simp
        have HC := Lib.hid hc
        clear hc
        go_wp2
        go_ret
        refine ⟨?_, rfl⟩
        rw [← HC.out, digOr_hit k hk2]
        rfl
      · have hcb : (((dig k).toNat : Int) == (c.toNat : Int)) = false := by
          have : (dig k).toNat ≠ c.toNat := fun e => hc (UInt8.toNat_inj.1 e)
          simp; omega
        have HC := Lib.hid hc
        clear hc
        go_wp2
        go_round
        case rel =>
          refine ⟨k + 1, by omega, by go_num, fun j hj => ?_⟩
          by_cases e : j = k
          · subst e; exact HC.out
          · exact hm.out j (by omega)
        case measure => simp [intOf]; omega
    · obtain rfl : k = 62 := by omega
      go_wp2
      go_ret
      exact ⟨by rw [digOr_miss c hm.out]; rfl, rfl⟩

/-- What a reader of the grammar returns. -/
def Said62 (r : Int × List UInt8 × Int) (w : World) (e : Ending) (w' : World) : Prop :=
  e = .returned (.tuple #[.int .i64 r.1, .string (bs r.2.1), .int .i64 r.2.2]) ∧ ∃ n, w' = w.drewN n

theorem door62_end (f : Bool) (n : Int) (l : List UInt8) : door62 f n (95 :: l) = (if f then 0 else n + 1, l, 0) := by
  unfold door62; rw [if_pos rfl]
theorem door62_bad {c : UInt8} (f : Bool) (n : Int) (l : List UInt8) (h : c ≠ 95) (hd : dig62 c = none) : door62 f n (c :: l) = (0, [], 1) := by
  unfold door62; rw [if_neg h, hd]
theorem door62_open {c : UInt8} {d : Int} (f : Bool) (n : Int) (l : List UInt8) (h : c ≠ 95) (hd : dig62 c = some d) (hn : 72057594037927936 ≤ n) : door62 f n (c :: l) = (0, [], 2) := by
  unfold door62; rw [if_neg h, hd]; simp only; rw [if_pos hn]
theorem door62_on {c : UInt8} {d : Int} (f : Bool) (n : Int) (l : List UInt8) (h : c ≠ 95) (hd : dig62 c = some d) (hn : ¬ 72057594037927936 ≤ n) : door62 f n (c :: l) = door62 false (62 * n + d) l := by
  conv => lhs; unfold door62
  rw [if_neg h, hd]; simp only; rw [if_neg hn]

set_option maxHeartbeats 2000000 in
/-- It reads as the grammar says. -/
theorem door62_any {l : List UInt8} (hl : l.length ≤ 9223372036854775806) (w : World) :
    Calls Try.prog 11 #[.string (bs l)] w (Said62 (door62 true 0 l) w) := by
  obtain ⟨r, hr⟩ : ∃ r, door62 true 0 l = r := ⟨_, rfl⟩
  rw [hr]
  replace hr := Lib.hid hr
  go_enter Try.func11, Try.ntmps11
  go_wp2
  go_loop [5, 10] (fun x i => ∃ (n : Int) (k : Nat), x = .int .i64 n ∧ i = .int .i64 k ∧ k ≤ l.length ∧ 0 ≤ n ∧ n ≤ 4611686018427387903 ∧ Hid (door62 (decide (k = 0)) n (l.drop k) = r)) (fun _ i => ((l.length : Int) - intOf i).toNat)
  case atStart => exact ⟨0, 0, rfl, rfl, by omega, by omega, by omega, hr⟩
  case round =>
    obtain ⟨n, k, rfl, rfl, hk, hn0, hn1, hd⟩ := hrel
    clear hr
    by_cases hk2 : k < l.length
    · have hg := bs_get l k (by rw [bs_size]; exact hk2)
      obtain ⟨c, hc⟩ : ∃ c, l[k] = c := ⟨_, rfl⟩
      rw [hc] at hg
      have hdrop : l.drop k = c :: l.drop (k + 1) := by rw [List.drop_eq_getElem_cons hk2, hc]
      have hd' := hd.out
      rw [hdrop] at hd'
      replace hd' := Lib.hid hd'
      clear hd hdrop hc
      by_cases hu : c = 95
      · subst hu
        have cb : ((95 : UInt8).toNat : Int) = 95 := rfl
        by_cases hk0 : k = 0
        · subst hk0
          go_wp2
          go_quiet (fail)
          go_wp2
          go_ret3
          have e := hd'.out
          rw [door62_end, show l.drop (0 + 1) = l.tail by simp] at e
          subst e
          exact ⟨rfl, _, rfl⟩
        · have hk0' : ((k : Int) == 0) = false := by simp; omega
          have HK := Lib.hid hk0
          clear hk0
          go_wp2
          go_quiet (fail)
          go_wp2
          go_ret3
          have e := hd'.out
          rw [door62_end, decide_eq_false HK.out] at e
          subst e
          exact ⟨rfl, _, rfl⟩
      · have hub : ((c.toNat : Int) == 95) = false := by
          have : c.toNat ≠ 95 := fun e => hu (UInt8.toNat_inj.1 e)
          simp; omega
        have HU := Lib.hid hu
        clear hu
        cases hdg : dig62 c with
        | none =>
          have HV := Lib.hid (show digOr c = -1 by unfold digOr; rw [hdg]; rfl)
          replace hdg := Lib.hid hdg
          go_wp2_with (go_at_call 28; refine (doorDigit_any c _).mono ?_; rintro e w2 ⟨rfl, rfl⟩; rw [HV.out])
          go_ret3
          have e := hd'.out
          rw [door62_bad _ _ _ HU.out hdg.out] at e
          subst e
          exact ⟨rfl, 0, rfl⟩
        | some d =>
          obtain ⟨d0, d1⟩ := dig62_range hdg
          have HV := Lib.hid (show digOr c = d by unfold digOr; rw [hdg]; rfl)
          replace hdg := Lib.hid hdg
          by_cases hb : 72057594037927936 ≤ n
          · go_wp2_with (go_at_call 28; refine (doorDigit_any c _).mono ?_; rintro e w2 ⟨rfl, rfl⟩; rw [HV.out])
            go_ret3
            have e := hd'.out
            rw [door62_open _ _ _ HU.out hdg.out hb] at e
            subst e
            exact ⟨rfl, 0, rfl⟩
          · go_wp2_with (go_at_call 28; refine (doorDigit_any c _).mono ?_; rintro e w2 ⟨rfl, rfl⟩; rw [HV.out])
            go_round
            case rel =>
              have e := hd'.out
              rw [door62_on _ _ _ HU.out hdg.out (by omega)] at e
              exact ⟨62 * n + d, k + 1, rfl, by go_num, by omega, by omega, by omega, by rw [decide_eq_false (by omega)]; exact e⟩
            case measure => simp [intOf]; omega
    · obtain rfl : k = l.length := by omega
      go_wp2
      go_ret3
      have e := hd.out
      rw [List.drop_length] at e
      subst e
      exact ⟨rfl, 0, rfl⟩
end Go.Proofs.Ytjlnnedofnefkaa
