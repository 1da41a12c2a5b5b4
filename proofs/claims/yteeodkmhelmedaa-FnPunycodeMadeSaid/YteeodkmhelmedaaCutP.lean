/- What the reference says of digits that break off, against the reader of Punycode: pure. -/
import Derived.Test.YteeodkmhelmedaaPDoorBreaksOffx1
import Derived.Test.YteeodkmhelmedaaPunyP
namespace Go.Proofs.Yteeodkmhelmedaa
open Go.RowKit Go.Proofs.Yteeodkmhelmedaa.PDoorBreaksOff Go.Proofs.YteeodkmhelmedaaW.PrintWords Go.Proofs.YteeodkmhelmedaaW.PrintLast Go.Proofs.YteeodkmhelmedaaW.PrintMore
set_option linter.unusedVariables false

theorem w64 {x : Int} (h0 : 0 ≤ x) (h1 : x ≤ 9000000000000000000) : wrap64 x = x := by unfold wrap64; omega
/-- A digit as the reference writes it. -/
def IsLow (c : UInt8) : Prop := (97 ≤ c.toNat ∧ c.toNat ≤ 122) ∨ (48 ≤ c.toNat ∧ c.toNat ≤ 57)
theorem low_digit {c : UInt8} (h : IsLow c) : ∃ d, pdig c = some d ∧ d ≤ 35 ∧ ∀ k, 1 ≤ k → spec_idDigit.f k (c.toNat : Int) = some (d : Int) := by
  rcases h with h | h
  · refine ⟨_, pdig_some3 h, by omega, fun k hk => ?_⟩
    obtain ⟨k, rfl⟩ : ∃ j, k = j + 1 := ⟨k - 1, by omega⟩
    unfold spec_idDigit.f
    rw [if_pos (by omega), decide_eq_true (by omega)]
    simp only [spec_idDigit.j0, if_true]
    congr 1
    omega
  · refine ⟨_, pdig_some1 h, by omega, fun k hk => ?_⟩
    obtain ⟨k, rfl⟩ : ∃ j, k = j + 1 := ⟨k - 1, by omega⟩
    unfold spec_idDigit.f
    rw [if_neg (by omega)]
    simp only [spec_idDigit.j0, Bool.false_eq_true, if_false]
    have e : spec_idIsDigit.f (c.toNat : Int) = some true := by
      unfold spec_idIsDigit.f
      rw [if_pos (by omega), decide_eq_true (by omega)]
    rw [e]
    simp only [Option.bind_some, if_true]
    congr 1
    omega
theorem thr_eq (place bias : Nat) (h1 : place ≤ 1000000) (h2 : bias ≤ 100000000000000) : spec_idThreshold.f (place : Int) (bias : Int) = some (pthr (36 * place) bias : Int) := by
  unfold spec_idThreshold.f
  rw [w64 (x := 36 * (place : Int)) (by omega) (by omega)]
  have e : wrap64 (36 * (place : Int) - (bias : Int)) = 36 * (place : Int) - (bias : Int) := by unfold wrap64; omega
  rw [e]
  congr 1
  unfold mn mx pthr
  repeat' split
  all_goals omega

theorem bs_nil_iff (l : List UInt8) : (bs l).toList = [] ↔ l = [] := by rw [bs_toList]
theorem bt_head (c : UInt8) (l : List UInt8) : bt (bs (c :: l)) 0 = (c.toNat : Int) := by
  unfold bt
  rw [dif_pos (show (0 : Int).toNat < (bs (c :: l)).size by rw [bs_size]; simp)]
  congr 2
/-- The reference reads a delta as the reader does. -/
theorem read_eq : ∀ (l : List UInt8) (bias sum w place k : Nat), (∀ c ∈ l, IsLow c) → l.length ≤ 1000000 → place + l.length ≤ 1000000 → bias ≤ 100000000000000 → sum ≤ 2000000 + 4 * w → w ≤ 59652322 * 35 → 2 * l.length + 2 ≤ k →
    ∃ r, spec_idRead.l0 k (bs l) (bias : Int) (sum : Int) (w : Int) (place : Int) = some r ∧
      match pread l sum w (36 * place) bias with
      | none => r.2.2 = false
      | some (i, rest) => r = ((i : Int), bs rest, true) ∧ i ≤ 1099511627776 ∧ sum ≤ i ∧ ∀ c ∈ rest, c ∈ l
  | [], bias, sum, w, place, k, _, _, _, _, _, _, hk => by
    obtain ⟨k, rfl⟩ : ∃ j, k = j + 1 := ⟨k - 1, by omega⟩
    refine ⟨(0, ⟨#[]⟩, false), ?_, ?_⟩
    · simp only [spec_idRead.l0]
      rw [if_pos ((bs_nil_iff []).2 rfl)]
    · simp [pread]
  | c :: l, bias, sum, w, place, k, hlow, hl, hp, hb, hs, hw, hk => by
    simp only [List.length_cons] at hl hp hk
    obtain ⟨k, rfl⟩ : ∃ j, k = j + 2 := ⟨k - 2, by omega⟩
    obtain ⟨d, hd, hd35, hdk⟩ := low_digit (hlow c (by simp))
    have hT := pthr_le (36 * place) bias
    obtain ⟨T, hTe⟩ : ∃ T, pthr (36 * place) bias = T := ⟨_, rfl⟩
    obtain ⟨m, hm⟩ : ∃ m, d * w = m := ⟨_, rfl⟩
    have hmw : m ≤ 35 * w := by rw [← hm]; exact Nat.mul_le_mul_right _ hd35
    have hmI : (d : Int) * (w : Int) = (m : Int) := by rw [← hm]; simp
    have hsz : ((bs (c :: l)).size : Int) = (l.length : Int) + 1 := by rw [bs_size]; simp
    have hex : (bs (c :: l)).extract 1 (bs (c :: l)).size = bs l := by rw [bs_size, bs_from]; rfl
    have e1 : spec_idRead.l0 (k + 2) (bs (c :: l)) (bias : Int) (sum : Int) (w : Int) (place : Int) = spec_idRead.j1 (k + 1) (bs l) (bias : Int) (sum : Int) (w : Int) (place : Int) (d : Int) false := by
      rw [spec_idRead.l0]
      rw [if_neg (by rw [bs_nil_iff]; simp), if_pos (by omega), bt_head, hdk (k + 1) (by omega)]
      simp only [Option.bind_some]
      rw [if_pos (by omega), if_neg (by omega), hex, decide_eq_false (by omega)]
    rw [e1, spec_idRead.j1]
    rw [if_neg (by decide), thr_eq place bias (by omega) hb]
    simp only [Option.bind_some]
    rw [hTe] at hT ⊢
    rw [hmI, w64 (x := (m : Int)) (by omega) (by omega), w64 (x := (sum : Int) + (m : Int)) (by omega) (by omega)]
    by_cases h1 : d < T
    · rw [if_pos (by omega), pread_end hd (by rw [hTe]; exact h1), hm]
      refine ⟨_, rfl, ?_, by omega, by omega, fun x hx => by simp [hx]⟩
      rw [decide_eq_true (by omega)]
      simp
    · rw [if_neg (by omega)]
      by_cases h2 : 59652323 ≤ w
      · rw [if_pos (by omega), pread_big hd (by rw [hTe]; exact h1) h2]
        exact ⟨_, rfl, rfl⟩
      · rw [if_neg (by omega), pread_on hd (by rw [hTe]; exact h1) h2, hm, hTe]
        obtain ⟨m2, hm2⟩ : ∃ m2 : Nat, w * (36 - T) = m2 := ⟨_, rfl⟩
        have b1 : 10 * w ≤ m2 := by rw [← hm2, Nat.mul_comm]; exact Nat.mul_le_mul_left _ (by omega)
        have b2 : m2 ≤ 35 * w := by rw [← hm2, Nat.mul_comm 35]; exact Nat.mul_le_mul_left _ (by omega)
        have hm2I : (w : Int) * (36 - (T : Int)) = (m2 : Int) := by rw [← hm2, show (36 - (T : Int)) = ((36 - T : Nat) : Int) by omega]; simp
        have e36 : wrap64 (36 - (T : Int)) = 36 - (T : Int) := by unfold wrap64; omega
        rw [e36, hm2I, w64 (x := (m2 : Int)) (by omega) (by omega), w64 (x := (place : Int) + 1) (by omega) (by omega), hm2]
        have ih := read_eq l bias (sum + m) m2 (place + 1) k (fun x hx => hlow x (by simp [hx])) (by omega) (by omega) hb (by omega) (by omega) (by omega)
        push_cast at ih
        obtain ⟨r, hr, hm⟩ := ih
        refine ⟨r, hr, ?_⟩
        rw [show 36 * (place + 1) = 36 * place + 36 by omega] at hm
        cases hpr : pread l (sum + m) m2 (36 * place + 36) bias with
        | none => rw [hpr] at hm; exact hm
        | some p =>
          obtain ⟨i, rest⟩ := p
          rw [hpr] at hm
          exact ⟨hm.1, hm.2.1, by omega, fun x hx => by simp [hm.2.2.2 x hx]⟩

/-- The bias. -/
theorem bias_eq (D : Nat) : ∀ (K k : Nat), D + K ≤ 100000000000000 → D + 1 ≤ k → spec_idAdapted.l0 k (D : Int) (K : Int) = some (pbias D K : Int) ∧ pbias D K ≤ D + K + 36 := by
  induction D using Nat.strongRecOn with
  | ind D ih =>
    intro K k h1 h2
    obtain ⟨k, rfl⟩ : ∃ j, k = j + 1 := ⟨k - 1, by omega⟩
    rw [spec_idAdapted.l0]
    by_cases h : 455 < D
    · rw [if_pos (by omega), pbias_big h]
      have e : wrap64 (Int.tdiv (D : Int) 35) = ((D / 35 : Nat) : Int) := by
        rw [show Int.tdiv (D : Int) 35 = ((D / 35 : Nat) : Int) from rfl]; exact w64 (by omega) (by omega)
      rw [e, w64 (x := (K : Int) + 36) (by omega) (by omega)]
      have := ih (D / 35) (by omega) (K + 36) k (by omega) (by omega)
      push_cast at this ⊢
      exact ⟨this.1, by omega⟩
    · rw [if_neg (by omega), pbias_small h]
      have e1 : wrap64 ((D : Int) + 38) = (D : Int) + 38 := w64 (by omega) (by omega)
      have e2 : wrap64 (36 * (D : Int)) = 36 * (D : Int) := w64 (by omega) (by omega)
      obtain ⟨Q, hQ⟩ : ∃ d, 36 * D / (D + 38) = d := ⟨_, rfl⟩
      have hQb : Q ≤ 36 := by rw [← hQ]; exact Nat.le_of_lt_succ ((Nat.div_lt_iff_lt_mul (by omega)).2 (by omega))
      have hqv : Int.tdiv (36 * (D : Int)) ((D : Int) + 38) = (Q : Int) := by rw [← hQ]; rfl
      rw [e1, if_neg (by omega), e2, hqv, hQ, w64 (x := (Q : Int)) (by omega) (by omega), w64 (x := (K : Int) + (Q : Int)) (by omega) (by omega)]
      push_cast
      exact ⟨rfl, by omega⟩
theorem adapt_eq (delta m : Nat) (first : Bool) (k : Nat) (h1 : delta ≤ 10000000000000) (hm : 1 ≤ m) (hm2 : m ≤ 1000000000) (hk : 100000000000000 ≤ k) :
    spec_idAdapted.f k (delta : Int) (m : Int) first = some (padapt delta m first : Int) ∧ padapt delta m first ≤ 20000000000000 := by
  obtain ⟨k, rfl⟩ : ∃ j, k = j + 1 := ⟨k - 1, by omega⟩
  have key : ∀ D1 : Nat, D1 ≤ delta → spec_idAdapted.j0 (k + 1) (D1 : Int) (m : Int) = some (pbias (D1 + D1 / m) 0 : Int) ∧ pbias (D1 + D1 / m) 0 ≤ 20000000000036 := by
    intro D1 hD1
    have h2 : D1 / m ≤ D1 := Nat.div_le_self _ _
    rw [spec_idAdapted.j0, if_neg (by omega)]
    obtain ⟨q, hq⟩ : ∃ q, D1 / m = q := ⟨_, rfl⟩
    have e1 : Int.tdiv (D1 : Int) (m : Int) = (q : Int) := by rw [← hq]; rfl
    rw [hq] at h2 ⊢
    rw [e1, w64 (x := (q : Int)) (by omega) (by omega), w64 (x := (D1 : Int) + (q : Int)) (by omega) (by omega)]
    have := bias_eq (D1 + q) 0 k (by omega) (by omega)
    push_cast at this ⊢
    exact ⟨this.1, by omega⟩
  unfold spec_idAdapted.f padapt pdelta0
  cases first with
  | true =>
    rw [if_pos rfl, if_pos rfl]
    have e : wrap64 (Int.tdiv (delta : Int) 700) = ((delta / 700 : Nat) : Int) := by
      rw [show Int.tdiv (delta : Int) 700 = ((delta / 700 : Nat) : Int) from rfl]; exact w64 (by omega) (by omega)
    rw [e]
    have := key (delta / 700) (by omega)
    have hb := bias_eq (delta / 700 + delta / 700 / m) 0 (delta / 700 + delta / 700 / m + 1) (by have : delta / 700 / m ≤ delta / 700 := Nat.div_le_self _ _; omega) (by omega)
    have : delta / 700 / m ≤ delta / 700 := Nat.div_le_self _ _
    exact ⟨by simpa using (key (delta / 700) (by omega)).1, by omega⟩
  | false =>
    rw [if_neg (by decide), if_neg (by decide)]
    have e : wrap64 (Int.tdiv (delta : Int) 2) = ((delta / 2 : Nat) : Int) := by
      rw [show Int.tdiv (delta : Int) 2 = ((delta / 2 : Nat) : Int) from rfl]; exact w64 (by omega) (by omega)
    rw [e]
    have hb := bias_eq (delta / 2 + delta / 2 / m) 0 (delta / 2 + delta / 2 / m + 1) (by have : delta / 2 / m ≤ delta / 2 := Nat.div_le_self _ _; omega) (by omega)
    have : delta / 2 / m ≤ delta / 2 := Nat.div_le_self _ _
    exact ⟨by simpa using (key (delta / 2) (by omega)).1, by omega⟩

theorem bt_get (l : List UInt8) (i : Nat) (h : i < l.length) : bt (bs l) (i : Int) = (l[i].toNat : Int) := by
  unfold bt
  rw [dif_pos (show ((i : Int)).toNat < (bs l).size by rw [bs_size]; simpa using h)]
  rw [bs_get]
  simp
/-- They are digits. -/
theorem only_eq (l : List UInt8) (hl : l.length ≤ 1000000) (hlow : ∀ c ∈ l, IsLow c) : ∀ (j i k : Nat), i + j = l.length → j + 1 < k → spec_idDigitsOnly.l0 k (bs l) (l.length : Int) (i : Int) = some true
  | 0, i, k, h1, h2 => by
    obtain ⟨k, rfl⟩ : ∃ j, k = j + 1 := ⟨k - 1, by omega⟩
    rw [spec_idDigitsOnly.l0, if_neg (by omega)]
  | j + 1, i, k, h1, h2 => by
    obtain ⟨k, rfl⟩ : ∃ j, k = j + 1 := ⟨k - 1, by omega⟩
    have hi : i < l.length := by omega
    obtain ⟨d, hd, hd35, hdk⟩ := low_digit (hlow l[i] (List.getElem_mem _))
    rw [spec_idDigitsOnly.l0, if_pos (by omega), if_pos (by omega), if_pos (by rw [bs_size]; omega), bt_get l i hi, hdk k (by omega)]
    simp only [Option.bind_some]
    rw [if_neg (by omega), w64 (x := (i : Int) + 1) (by omega) (by omega)]
    have := only_eq l hl hlow j (i + 1) k (by omega) (by omega)
    push_cast at this
    exact this

theorem pdec_none_read {f : Nat} {d : List UInt8} {n i bias : Nat} {out : List Nat} (hd : d ≠ []) (h : pread d i 1 36 bias = none) : pdec f d n i bias out = none := by
  cases d with
  | nil => exact absurd rfl hd
  | cons c cs =>
    cases f with
    | zero => rfl
    | succ f => rw [pdec, h]
/-- Digits of which the reference says that they break off are refused by the reader. -/
theorem breaks_eq : ∀ (f : Nat) (d : List UInt8) (m i bias k : Nat), d.length ≤ f → (∀ c ∈ d, IsLow c) → d.length ≤ 1000 → 1 ≤ m → m + d.length ≤ 1000000 → i < m → bias ≤ 20000000000000 → 100000000000000 + d.length ≤ k →
    ∃ r, spec_DoorBreaksOff.l0 k (bs d) (m : Int) (i : Int) (bias : Int) = some r ∧ (r = true → ∀ n out, out.length + 1 = m → pdec f d n i bias out = none)
  | 0, d, m, i, bias, k, h0, _, _, _, _, _, _, hk => by
    obtain rfl : d = [] := List.eq_nil_of_length_eq_zero (by omega)
    obtain ⟨k, rfl⟩ : ∃ j, k = j + 1 := ⟨k - 1, by omega⟩
    exact ⟨false, by rw [spec_DoorBreaksOff.l0, if_pos ((bs_nil_iff []).2 rfl)], fun h => by cases h⟩
  | f + 1, d, m, i, bias, k, h0, hlow, hl, hm1, hm2, hi, hb, hk => by
    obtain ⟨k, rfl⟩ : ∃ j, k = j + 1 := ⟨k - 1, by omega⟩
    by_cases hd : d = []
    · subst hd
      exact ⟨false, by rw [spec_DoorBreaksOff.l0, if_pos ((bs_nil_iff []).2 rfl)], fun h => by cases h⟩
    · have hpos := List.length_pos_iff.2 hd
      rw [spec_DoorBreaksOff.l0, if_neg (by rw [bs_nil_iff]; exact hd)]
      obtain ⟨r, hr, hrm⟩ := read_eq d bias i 1 1 k hlow (by omega) (by omega) (by omega) (by omega) (by omega) (by omega)
      have er : spec_idRead.f k (bs d) (i : Int) (bias : Int) = some r := hr
      rw [er]
      simp only [Option.bind_some]
      cases hpr : pread d i 1 36 bias with
      | none =>
        rw [hpr] at hrm
        have hrm' : r.2.2 = false := hrm
        rw [if_neg (by rw [hrm']; decide)]
        have eo : spec_idDigitsOnly.f k (bs d) = some true := by
          unfold spec_idDigitsOnly.f
          rw [bs_size]
          exact only_eq d (by omega) hlow d.length 0 k (by omega) (by omega)
        rw [eo]
        simp only [Option.bind_some, if_true]
        exact ⟨_, rfl, fun _ n out _ => pdec_none_read hd hpr⟩
      | some p =>
        obtain ⟨i', rest⟩ := p
        rw [hpr] at hrm
        obtain ⟨rfl, hib, hii, hmem⟩ := hrm
        rw [if_pos rfl]
        simp only
        have hlen := pread_len _ _ _ _ _ hpr
        simp only at hlen
        have hsub : wrap64 ((i' : Int) - (i : Int)) = ((i' - i : Nat) : Int) := by rw [w64 (by omega) (by omega)]; omega
        have hfirst : ((i : Int) == 0) = decide (i = 0) := by
          by_cases h : i = 0
          · subst h; rfl
          · rw [decide_eq_false h]; simpa using h
        obtain ⟨ha, hab⟩ := adapt_eq (i' - i) m (decide (i = 0)) k (by omega) hm1 (by omega) (by omega)
        rw [hsub, hfirst, ha]
        simp only [Option.bind_some]
        rw [if_neg (by omega)]
        have hmod : i' % m < m := Nat.mod_lt _ (by omega)
        have hj : Int.tmod (i' : Int) (m : Int) = ((i' % m : Nat) : Int) := rfl
        rw [hj, w64 (x := (m : Int) + 1) (by omega) (by omega), w64 (x := ((i' % m : Nat) : Int) + 1) (by omega) (by omega)]
        obtain ⟨r2, hr2, hno⟩ := breaks_eq f rest (m + 1) (i' % m + 1) (padapt (i' - i) m (decide (i = 0))) k (by omega) (fun c hc => hlow c (hmem c hc)) (by omega) (by omega) (by omega) (by omega) hab (by omega)
        push_cast at hr2 ⊢
        refine ⟨r2, hr2, fun h n out ho => ?_⟩
        cases d with
        | nil => exact absurd rfl hd
        | cons c cs =>
          rw [pdec, hpr]
          simp only
          split
          · rw [ho]
            exact hno h _ _ (by
              have : i' % m ≤ out.length := by omega
              simp
              omega)
          · rfl
end Go.Proofs.Yteeodkmhelmedaa
