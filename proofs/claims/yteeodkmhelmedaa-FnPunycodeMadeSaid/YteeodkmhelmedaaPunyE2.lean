/- The writer's deltas against the reader; the bias; one character more: pure. -/
import Derived.Test.YteeodkmhelmedaaPunyE
import Derived.Lib.Hide
namespace Go.Proofs.Yteeodkmhelmedaa
open Go.RowKit Go.Proofs.Yteeodkmhelmedaa.PFnPunycodeMade Go.Proofs.YteeodkmhelmedaaW.PrintWords Go.Proofs.YteeodkmhelmedaaW.PrintLast Go.Proofs.YteeodkmhelmedaaW.PrintMore
set_option linter.unusedVariables false

def ltab : List UInt8 := [97, 98, 99, 100, 101, 102, 103, 104, 105, 106, 107, 108, 109, 110, 111, 112, 113, 114, 115, 116, 117, 118, 119, 120, 121, 122, 48, 49, 50, 51, 52, 53, 54, 55, 56, 57]
def ltr (d : Nat) : UInt8 := ltab.getD d 0
theorem ltr_dig : ∀ d : Nat, d < 36 → pdig (ltr d) = some d ∧ ltr d ≠ 95 := by decide +kernel
theorem letter_eq (d : Nat) (h : d < 36) : spec_idLetter.f (d : Int) = some (bs [ltr d]) := by
  unfold spec_idLetter.f
  rw [e64 (by omega) (by omega), if_pos (by omega), if_pos (by omega), if_pos (by omega)]
  congr 1
  rw [show ((d : Int)).toNat = d by omega, show ((d : Int) + 1).toNat = d + 1 by omega]
  show (bs ltab).extract _ _ = _
  rw [bs_extract]
  congr 1
  have : ∀ j : Nat, j < 36 → (ltab.drop j).take (j + 1 - j) = [ltr j] := by decide +kernel
  exact this _ h
theorem thr_eqE (place bias : Nat) (h1 : place ≤ 100000000000000) (h2 : bias ≤ 100000000000000) : spec_idThreshold.f (place : Int) (bias : Int) = some (pthr (36 * place) bias : Int) := by
  unfold spec_idThreshold.f
  rw [e64 (x := 36 * (place : Int)) (by omega) (by omega)]
  have e : wrap64 (36 * (place : Int) - (bias : Int)) = 36 * (place : Int) - (bias : Int) := by unfold wrap64; omega
  rw [e]
  congr 1
  unfold mn mx pthr
  repeat' split
  all_goals omega
/-- A weight that is great stands only where the digit is the last one. -/
theorem weight_fits {x w place bias T : Nat} (hT : pthr (36 * place) bias = T) (hx : T ≤ x) (hxw : x * w ≤ 1500000000) (hp : 1 ≤ place) (hJ : (36 * (place - 1) ≤ bias ∨ place = 1) → w = 35 ^ (place - 1)) : w < 59652323 := by
  rcases Nat.lt_or_ge w 59652323 with h | h
  · exact h
  · exfalso
    by_cases h26 : 26 ≤ T
    · have : 26 * 59652323 ≤ x * w := Nat.mul_le_mul (by omega) h
      omega
    · have hw := hJ (by
        unfold pthr at hT
        repeat' split at hT
        all_goals omega)
      have h1 : 1 ≤ T := by have := (pthr_le (36 * place) bias).1; omega
      have hxw2 : w ≤ x * w := Nat.le_mul_of_pos_left w (by omega)
      rcases Nat.lt_or_ge (place - 1) 6 with h6 | h6
      · have : 35 ^ (place - 1) ≤ 35 ^ 5 := Nat.pow_le_pow_right (by decide) (by omega)
        have e : (35 : Nat) ^ 5 = 52521875 := by decide
        omega
      · have : 35 ^ 6 ≤ 35 ^ (place - 1) := Nat.pow_le_pow_right (by decide) h6
        have e : (35 : Nat) ^ 6 = 1838265625 := by decide
        omega
theorem add3 (T r P : Nat) : T + r + P = P + r + T := by omega
theorem step_arith {x T U y : Nat} (hT : 1 ≤ T ∧ T ≤ 26) (h : T ≤ x) (hU : 36 - T = U) (hy : x - T = y) : ∃ r q, T + r < 36 ∧ q < x ∧ Hid (U * q + r + T = x) ∧
    Int.tmod (y : Int) (U : Int) = (r : Int) ∧ Int.tdiv (y : Int) (U : Int) = (q : Int) := by
  have hd : y % U < U := Nat.mod_lt _ (by omega)
  have hdm := Nat.div_add_mod y U
  exact ⟨y % U, y / U, by omega, Nat.lt_of_le_of_lt (Nat.div_le_self _ _) (by omega), Lib.hid (by omega), rfl, rfl⟩
theorem sum_arith {x T U r q : Nat} (w : Nat) (h : U * q + r + T = x) : (T + r) * w + q * (w * U) = x * w := by
  have e1 : q * (w * U) = U * q * w := by rw [Nat.mul_comm w, ← Nat.mul_assoc, Nat.mul_comm q]
  rw [e1, ← Nat.add_mul, add3, h]
theorem weight_next {w place bias T U : Nat} (hT : pthr (36 * place) bias = T) (hU : 36 - T = U) (hp1 : 1 ≤ place) (h2 : 36 * (place + 1 - 1) ≤ bias ∨ place + 1 = 1)
    (hJ : (36 * (place - 1) ≤ bias ∨ place = 1) → w = 35 ^ (place - 1)) : w * U = 35 ^ (place + 1 - 1) := by
  have h3 : 36 * place ≤ bias := by
    rcases h2 with h2 | h2
    · simpa using h2
    · omega
  have hT1 : T = 1 := by rw [← hT]; unfold pthr; rw [if_pos h3]
  have hw := hJ (by
    by_cases hp : place = 1
    · exact .inr hp
    · exact .inl (by omega))
  subst hT1
  subst hU
  rw [hw, show place + 1 - 1 = place - 1 + 1 by omega, Nat.pow_succ]
theorem len_next {x T U r q j n : Nat} (hT : 1 ≤ T) (hU : 10 ≤ U) (h : U * q + r + T = x) (hj : x < 10 ^ j) (hE : ∀ j, q < 10 ^ j → n ≤ j + 1) : n + 1 ≤ j + 1 := by
  cases j with
  | zero =>
    rw [Nat.pow_zero] at hj
    generalize U * q = P at h
    omega
  | succ j =>
    rw [Nat.pow_succ] at hj
    have h1 : 10 * q ≤ U * q := Nat.mul_le_mul_right q hU
    have := hE j (by
      generalize U * q = P at h h1
      generalize 10 ^ j = Z at hj ⊢
      omega)
    omega
/-- A delta written is read. -/
theorem delta_eq (x : Nat) : ∀ (w place bias k : Nat) (acc : List UInt8), x * w ≤ 1500000000 → 1 ≤ w → 1 ≤ place → place + x ≤ 100000000000000 → bias ≤ 100000000000000 → acc.length + x ≤ 100000000000000 →
    ((36 * (place - 1) ≤ bias ∨ place = 1) → w = 35 ^ (place - 1)) → x + 1 ≤ k →
    ∃ E, spec_idDelta.l0 k (x : Int) (bias : Int) (bs acc) (place : Int) = some (bs (acc ++ E)) ∧ E ≠ [] ∧ (∀ j, x < 10 ^ j → E.length ≤ j + 1) ∧ (∀ c ∈ E, c ≠ 95) ∧ ∀ rest i, pread (E ++ rest) i w (36 * place) bias = some (i + x * w, rest) := by
  induction x using Nat.strongRecOn with
  | ind x ih =>
    intro w place bias k acc hxw hw1 hp1 hpx hb hacc hJ hk
    obtain ⟨k, rfl⟩ : ∃ j, k = j + 1 := ⟨k - 1, by omega⟩
    have hTb := pthr_le (36 * place) bias
    obtain ⟨T, hT⟩ : ∃ T, pthr (36 * place) bias = T := ⟨_, rfl⟩
    rw [hT] at hTb
    have hx15 : x ≤ 1500000000 := Nat.le_trans (Nat.le_mul_of_pos_right x hw1) hxw
    have HJ := Lib.hid hJ
    have HXW := Lib.hid hxw
    have IH := Lib.hid ih
    clear hJ hxw ih
    rw [spec_idDelta.l0, thr_eqE place bias (by omega) hb, hT]
    simp only [Option.bind_some]
    by_cases h : x < T
    · rw [if_pos (by omega), letter_eq x (by omega)]
      simp only [Option.bind_some]
      rw [if_pos (by rw [bs_size, bs_size]; simp; omega), bs_append]
      refine ⟨[ltr x], rfl, by simp, fun j _ => by rw [List.length_singleton]; exact Nat.le_add_left 1 j, ?_, fun rest i => ?_⟩
      · intro c hc
        rw [List.mem_singleton.1 hc]
        exact (ltr_dig x (by omega)).2
      · exact pread_end (ltr_dig x (by omega)).1 (by rw [hT]; exact h)
    · have hTb1 : 1 ≤ T := hTb.1
      have hlt : ¬ (x : Int) < (T : Int) := fun hh => h (by exact_mod_cast hh)
      have hwf := weight_fits hT (by omega) HXW.out hp1 HJ.out
      obtain ⟨U, hU⟩ : ∃ U, 36 - T = U := ⟨_, rfl⟩
      have hUb : 10 ≤ U ∧ U ≤ 35 := by omega
      have e36 : wrap64 (36 - (T : Int)) = (U : Int) := by rw [e64 (by omega) (by omega)]; omega
      have hn0 : ¬ (U : Int) = 0 := by omega
      obtain ⟨y, hy⟩ : ∃ y, x - T = y := ⟨_, rfl⟩
      have exT : wrap64 ((x : Int) - (T : Int)) = (y : Int) := by rw [e64 (by omega) (by omega)]; omega
      obtain ⟨r, q, hr36, hqx, hdm, em, ed⟩ := step_arith hTb (by omega : T ≤ x) hU hy
      rw [if_neg hlt, e36, if_neg hn0, exT, em, ed]
      clear hlt e36 hn0 exT em ed hy
      have hU' := Lib.hid hU
      have hT' := Lib.hid hT
      clear hU hT
      have hc2 : (T : Int) + (r : Int) = ((T + r : Nat) : Int) := by push_cast; rfl
      have eT : wrap64 ((T : Int) + (r : Int)) = ((T + r : Nat) : Int) := by rw [e64 (by omega) (by omega), hc2]
      have hqb : (q : Int) ≤ 9000000000000000000 := by omega
      have hpb : (place : Int) + 1 ≤ 9000000000000000000 := by omega
      rw [eT, letter_eq (T + r) hr36]
      clear eT hc2
      simp only [Option.bind_some]
      have hacc2 : (acc ++ [ltr (T + r)]).length + q ≤ 100000000000000 := by rw [List.length_append, List.length_singleton]; omega
      have hszb : (bs acc).size + (bs [ltr (T + r)]).size ≤ 9223372036854775807 := by rw [bs_size, bs_size, List.length_singleton]; omega
      have hkq : q + 1 ≤ k := by omega
      have hpq : place + 1 + q ≤ 100000000000000 := by omega
      rw [if_pos hszb, bs_append, e64 (x := (q : Int)) (Int.natCast_nonneg q) hqb, e64 (x := (place : Int) + 1) (by omega) hpb]
      have hsum := Lib.hid (sum_arith w hdm.out)
      have hmle := Lib.hid (Nat.le_trans (by rw [← hsum.out]; exact Nat.le_add_left _ _ : q * (w * U) ≤ x * w) HXW.out)
      have hw2 := Lib.hid (Nat.le_trans hw1 (Nat.le_mul_of_pos_right w (by omega : 0 < U)))
      obtain ⟨E, hE, hne, hEl, hlow, hread⟩ := IH.out q hqx (w * U) (place + 1) bias k (acc ++ [ltr (T + r)]) hmle.out hw2.out (Nat.le_add_left 1 place) hpq hb hacc2 (fun h2 => weight_next hT'.out hU'.out hp1 h2 HJ.out) hkq
      push_cast at hE
      refine ⟨ltr (T + r) :: E, by rw [hE, List.append_assoc]; rfl, by simp, fun j hj => len_next hTb1 hUb.1 hdm.out hj hEl, ?_, fun rest i => ?_⟩
      · intro c hc
        rcases List.mem_cons.1 hc with rfl | hc
        · exact (ltr_dig _ hr36).2
        · exact hlow c hc
      · have := hread rest (i + (T + r) * w)
        rw [show 36 * (place + 1) = 36 * place + 36 from Nat.mul_succ _ _] at this
        rw [List.cons_append, pread_on (ltr_dig (T + r) hr36).1 (by rw [hT'.out]; exact Nat.not_lt.2 (Nat.le_add_right _ _)) (Nat.not_le.2 hwf), hT'.out, hU'.out, this, Nat.add_assoc, hsum.out]

/-- The bias. -/
theorem bias_eqE (D : Nat) : ∀ (K k : Nat), D + K ≤ 100000000000000 → D + 1 ≤ k → spec_idAdapted.l0 k (D : Int) (K : Int) = some (pbias D K : Int) ∧ pbias D K ≤ D + K + 36 := by
  induction D using Nat.strongRecOn with
  | ind D ih =>
    intro K k h1 h2
    obtain ⟨k, rfl⟩ : ∃ j, k = j + 1 := ⟨k - 1, by omega⟩
    rw [spec_idAdapted.l0]
    by_cases h : 455 < D
    · rw [if_pos (by omega), pbias_big h]
      have e : wrap64 (Int.tdiv (D : Int) 35) = ((D / 35 : Nat) : Int) := by
        rw [show Int.tdiv (D : Int) 35 = ((D / 35 : Nat) : Int) from rfl]; exact e64 (by omega) (by omega)
      rw [e, e64 (x := (K : Int) + 36) (by omega) (by omega)]
      have := ih (D / 35) (by omega) (K + 36) k (by omega) (by omega)
      push_cast at this ⊢
      exact ⟨this.1, by omega⟩
    · rw [if_neg (by omega), pbias_small h]
      have e1 : wrap64 ((D : Int) + 38) = (D : Int) + 38 := e64 (by omega) (by omega)
      have e2 : wrap64 (36 * (D : Int)) = 36 * (D : Int) := e64 (by omega) (by omega)
      obtain ⟨Q, hQ⟩ : ∃ d, 36 * D / (D + 38) = d := ⟨_, rfl⟩
      have hQb : Q ≤ 36 := by rw [← hQ]; exact Nat.le_of_lt_succ ((Nat.div_lt_iff_lt_mul (by omega)).2 (by omega))
      have hqv : Int.tdiv (36 * (D : Int)) ((D : Int) + 38) = (Q : Int) := by rw [← hQ]; rfl
      rw [e1, if_neg (by omega), e2, hqv, hQ, e64 (x := (Q : Int)) (by omega) (by omega), e64 (x := (K : Int) + (Q : Int)) (by omega) (by omega)]
      push_cast
      exact ⟨rfl, by omega⟩
theorem adapt_eqE (delta m : Nat) (first : Bool) (k : Nat) (h1 : delta ≤ 10000000000000) (hm : 1 ≤ m) (hm2 : m ≤ 1000000000) (hk : 100000000000000 ≤ k) :
    spec_idAdapted.f k (delta : Int) (m : Int) first = some (padapt delta m first : Int) ∧ padapt delta m first ≤ 20000000000000 := by
  obtain ⟨k, rfl⟩ : ∃ j, k = j + 1 := ⟨k - 1, by omega⟩
  have key : ∀ D1 : Nat, D1 ≤ delta → spec_idAdapted.j0 (k + 1) (D1 : Int) (m : Int) = some (pbias (D1 + D1 / m) 0 : Int) ∧ pbias (D1 + D1 / m) 0 ≤ 20000000000036 := by
    intro D1 hD1
    have h2 : D1 / m ≤ D1 := Nat.div_le_self _ _
    rw [spec_idAdapted.j0, if_neg (by omega)]
    obtain ⟨q, hq⟩ : ∃ q, D1 / m = q := ⟨_, rfl⟩
    have e1 : Int.tdiv (D1 : Int) (m : Int) = (q : Int) := by rw [← hq]; rfl
    rw [hq] at h2 ⊢
    rw [e1, e64 (x := (q : Int)) (by omega) (by omega), e64 (x := (D1 : Int) + (q : Int)) (by omega) (by omega)]
    have := bias_eqE (D1 + q) 0 k (by omega) (by omega)
    push_cast at this ⊢
    exact ⟨this.1, by omega⟩
  unfold spec_idAdapted.f padapt pdelta0
  cases first with
  | true =>
    rw [if_pos rfl, if_pos rfl]
    have e : wrap64 (Int.tdiv (delta : Int) 700) = ((delta / 700 : Nat) : Int) := by
      rw [show Int.tdiv (delta : Int) 700 = ((delta / 700 : Nat) : Int) from rfl]; exact e64 (by omega) (by omega)
    rw [e]
    have hb := bias_eqE (delta / 700 + delta / 700 / m) 0 (delta / 700 + delta / 700 / m + 1) (by have : delta / 700 / m ≤ delta / 700 := Nat.div_le_self _ _; omega) (by omega)
    have : delta / 700 / m ≤ delta / 700 := Nat.div_le_self _ _
    exact ⟨by simpa using (key (delta / 700) (by omega)).1, by omega⟩
  | false =>
    rw [if_neg (by decide), if_neg (by decide)]
    have e : wrap64 (Int.tdiv (delta : Int) 2) = ((delta / 2 : Nat) : Int) := by
      rw [show Int.tdiv (delta : Int) 2 = ((delta / 2 : Nat) : Int) from rfl]; exact e64 (by omega) (by omega)
    rw [e]
    have hb := bias_eqE (delta / 2 + delta / 2 / m) 0 (delta / 2 + delta / 2 / m + 1) (by have : delta / 2 / m ≤ delta / 2 := Nat.div_le_self _ _; omega) (by omega)
    have : delta / 2 / m ≤ delta / 2 := Nat.div_le_self _ _
    exact ⟨by simpa using (key (delta / 2) (by omega)).1, by omega⟩

/-- One character more. -/
theorem pdec_step {f nd id bias delta now q : Nat} {E rest : List UInt8} {out : List Nat} (hne : E ≠ []) (hread : pread (E ++ rest) id 1 36 bias = some (id + delta, rest)) (hq : q ≤ out.length)
    (hS : nd * (out.length + 1) + id + delta = now * (out.length + 1) + q) (hsc : pscalar now = true) :
    pdec (f + 1) (E ++ rest) nd id bias out = pdec f rest now (q + 1) (padapt delta (out.length + 1) (decide (id = 0))) (out.take q ++ now :: out.drop q) := by
  obtain ⟨c, cs, hc⟩ : ∃ c cs, E ++ rest = c :: cs := by
    cases E with
    | nil => exact absurd rfl hne
    | cons c cs => exact ⟨c, cs ++ rest, rfl⟩
  rw [hc] at hread ⊢
  have h1 : id + delta = (now - nd) * (out.length + 1) + q ∧ nd ≤ now := by
    have hle : nd ≤ now := by
      rcases Nat.lt_or_ge now nd with h | h
      · have : (now + 1) * (out.length + 1) ≤ nd * (out.length + 1) := Nat.mul_le_mul_right _ h
        rw [Nat.add_mul] at this
        omega
      · exact h
    obtain ⟨d, rfl⟩ : ∃ d, now = nd + d := ⟨now - nd, by omega⟩
    rw [Nat.add_mul] at hS
    rw [Nat.add_sub_cancel_left]
    exact ⟨by omega, hle⟩
  have hdiv : (id + delta) / (out.length + 1) = now - nd := by
    rw [h1.1, Nat.add_comm, Nat.add_mul_div_right _ _ (by omega), Nat.div_eq_of_lt (by omega), Nat.zero_add]
  have hmod : (id + delta) % (out.length + 1) = q := by
    rw [h1.1, Nat.add_comm, Nat.add_mul_mod_self_right, Nat.mod_eq_of_lt (by omega)]
  rw [pdec, hread]
  simp only
  rw [hdiv, hmod, show nd + (now - nd) = now by omega, if_pos hsc, Nat.add_sub_cancel_left]
end Go.Proofs.Yteeodkmhelmedaa
