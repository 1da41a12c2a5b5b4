/- Names behind their number are read back, and refused where their end is missing. No memory, no program. -/
import Derived.Test.YtokjbdofpdncdaaDoorIdentRead
import Derived.Test.YtokjbdofpdncdaaDoorDecRead
namespace Go.Proofs.YtokjbdofpdncdaaDoor
open Go.RowKit Go.Lib
set_option linter.unusedVariables false

/-- What stands between a number and a name serves. -/
def Between (u n : List UInt8) : Prop := u = [95] ∨ (u = [] ∧ ∀ c t, n = c :: t → isDig c = false ∧ c ≠ 95)
def counted (u n : List UInt8) : List UInt8 := decDigits n.length ++ (u ++ n)

theorem between_head {u n t : List UInt8} (hb : Between u n) (hn : n ≠ [] ∨ u ≠ []) : ∀ c r, u ++ n ++ t = c :: r → isDig c = false := by
  intro c r h
  rcases hb with rfl | ⟨rfl, hb⟩
  · simp at h
    rw [← h.1]
    rfl
  · cases n with
    | nil => rcases hn with h1 | h1 <;> exact absurd rfl h1
    | cons d n =>
      simp at h
      rw [← h.1]
      exact (hb d n rfl).1
theorem between_take {u n : List UInt8} (hb : Between u n) (j : Nat) : (∀ c r, (u ++ n).take j = c :: r → isDig c = false) ∧ (0 < j → unUnder ((u ++ n).take j) = n.take (j - u.length)) := by
  rcases hb with rfl | ⟨rfl, hb⟩
  · cases j with
    | zero => exact ⟨fun c r h => by simp at h, fun h => absurd h (by omega)⟩
    | succ j =>
      refine ⟨fun c r h => ?_, fun _ => ?_⟩
      · simp at h
        rw [← h.1]
        rfl
      · simp [unUnder]
  · refine ⟨fun c r h => ?_, fun hj => ?_⟩
    · cases n with
      | nil => simp at h
      | cons d n =>
        cases j with
        | zero => simp at h
        | succ j =>
          simp at h
          rw [← h.1]
          exact (hb d n rfl).1
    · simp only [List.nil_append, List.length_nil, Nat.sub_zero]
      cases n with
      | nil => simp [unUnder]
      | cons d n =>
        cases j with
        | zero => omega
        | succ j =>
          have := (hb d n rfl).2
          simp [unUnder, this]
theorem unUnder_all {u n t : List UInt8} (hb : Between u n) (hn : n ≠ []) : unUnder (u ++ n ++ t) = n ++ t := by
  rcases hb with rfl | ⟨rfl, hb⟩
  · rfl
  · cases n with
    | nil => exact absurd rfl hn
    | cons d n =>
      have := (hb d n rfl).2
      simp [unUnder, this]

theorem ident_counted {u n : List UInt8} (hb : Between u n) (hn : n ≠ []) (hp : n.all plainB = true) (hl : n.length ≤ 1000000000) (t : List UInt8) : ident (counted u n ++ t) = some (n, t) := by
  unfold ident counted
  rw [List.append_assoc, List.append_assoc, ← List.append_assoc u, dec_read hl (between_head hb (.inl hn))]
  simp only
  rw [unUnder_all hb hn]
  unfold takeId
  have e1 : ((n.length : Int)).toNat = n.length := by omega
  rw [if_neg (by rw [List.length_append]; omega), e1, List.take_left, if_pos hp, List.drop_left]

theorem counted_head {u n : List UInt8} (t : List UInt8) : ∃ c r, counted u n ++ t = c :: r ∧ isDig c = true := by
  unfold counted
  cases h : decDigits n.length with
  | nil => exact absurd h (decDigits_pos _)
  | cons c l => exact ⟨c, l ++ (u ++ n) ++ t, by simp, decDigits_dig n.length c (by rw [h]; simp)⟩
theorem dig_not {c : UInt8} (h : isDig c = true) : c ≠ 115 ∧ c ≠ 117 ∧ c ≠ 95 := by
  refine ⟨?_, ?_, ?_⟩ <;> (rintro rfl; exact absurd h (by decide))
theorem take_head {l : List UInt8} {c : UInt8} {r : List UInt8} (h : l = c :: r) (j : Nat) : l.take j = [] ∨ ∃ r', l.take j = c :: r' := by
  subst h
  cases j with
  | zero => exact .inl rfl
  | succ j => exact .inr ⟨r.take j, rfl⟩

theorem ident_cut {u n : List UInt8} (hb : Between u n) (hn : n ≠ []) (hl : n.length ≤ 1000000000) {j : Nat} (hj : j < (counted u n).length) : ident ((counted u n).take j) = none := by
  have hpos : 0 < n.length := by cases n with
    | nil => exact absurd rfl hn
    | cons _ _ => simp
  unfold counted at hj ⊢
  by_cases h0 : j = 0
  · subst h0
    simp [ident, dec]
  by_cases h1 : j ≤ (decDigits n.length).length
  · obtain ⟨m, hm0, hm1, hm2⟩ := decDigits_cut n.length hpos j (by omega)
    rw [List.take_append_of_le_length h1, hm2]
    unfold ident
    have := dec_read (n := m) (by omega) (t := []) (by rintro _ _ h; cases h)
    rw [List.append_nil] at this
    rw [this]
    simp only [unUnder]
    unfold takeId
    rw [if_pos (by simp; omega)]
  · rw [List.take_append, List.take_of_length_le (by omega)]
    obtain ⟨h2, h3⟩ := between_take hb (j - (decDigits n.length).length)
    unfold ident
    rw [dec_read hl h2]
    simp only
    rw [h3 (by omega)]
    unfold takeId
    rw [if_pos]
    simp at hj ⊢
    omega

/-- A disambiguator and a counted name, and what is cut of them. -/
theorem identAll_counted {k : Nat} (hk : k ≤ 4611686018427387904) {u n : List UInt8} (hb : Between u n) (hn : n ≠ []) (hp : n.all plainB = true) (hl : n.length ≤ 1000000000) (t : List UInt8) :
    identAll (disOf k ++ (counted u n ++ t)) = some ((k : Int), n, t) ∧ noUIn (disOf k ++ (counted u n ++ t)) := by
  obtain ⟨c, r, hc, hd⟩ := counted_head (u := u) (n := n) t
  have h1 : ∀ x, counted u n ++ t ≠ 115 :: x := fun x h => by rw [hc] at h; cases h; exact (dig_not hd).1 rfl
  exact ⟨identAll_read hk h1 (ident_counted hb hn hp hl t), noUIn_read hk h1 (fun x h => by rw [hc] at h; cases h; exact (dig_not hd).2.1 rfl)⟩

theorem identAll_cut {k : Nat} (hk : k ≤ 4611686018427387904) {u n : List UInt8} (hb : Between u n) (hn : n ≠ []) (hl : n.length ≤ 1000000000) {j : Nat} (hj : j < (disOf k ++ counted u n).length) :
    identAll ((disOf k ++ counted u n).take j) = none ∧ noUIn ((disOf k ++ counted u n).take j) := by
  by_cases h1 : j < (disOf k).length
  · rw [List.take_append_of_le_length (by omega)]
    have hk0 : k ≠ 0 := by rintro rfl; simp [disOf] at h1
    have e : disOf k = 115 :: b62of (k - 1) := by unfold disOf; rw [if_neg hk0]
    rw [e] at h1 ⊢
    cases j with
    | zero =>
      refine ⟨by simp [identAll, disa, ident, dec], fun d t h => ?_⟩
      simp [disa] at h
      rw [h.2]
      intro x hx
      cases hx
    | succ j =>
      have hn2 : disa ((115 :: b62of (k - 1)).take (j + 1)) = none := by
        show (b62 ((b62of (k - 1)).take j)).map _ = none
        rw [b62_cut (by simpa using h1)]
        rfl
      refine ⟨by unfold identAll; rw [hn2], fun d t h => ?_⟩
      rw [hn2] at h
      cases h
  · rw [List.take_append, List.take_of_length_le (by omega)]
    have hj2 : j - (disOf k).length < (counted u n).length := by rw [List.length_append] at hj; omega
    have hcut := ident_cut hb hn hl hj2
    obtain ⟨c, r, hc, hd⟩ := counted_head (u := u) (n := n) []
    rw [List.append_nil] at hc
    generalize j - (disOf k).length = i at hcut
    have h1 : ∀ x, (counted u n).take i ≠ 115 :: x := fun x h => by
      rcases take_head hc i with h2 | ⟨r', h2⟩
      · rw [h2] at h; cases h
      · rw [h2] at h; cases h; exact (dig_not hd).1 rfl
    have h3 := disa_read hk _ h1
    refine ⟨by unfold identAll; rw [h3]; simp only; rw [hcut]; rfl, fun d t h => ?_⟩
    rw [h3] at h
    simp at h
    rw [← h.2]
    intro x hx
    rcases take_head hc i with h2 | ⟨r', h2⟩
    · rw [h2] at hx; cases hx
    · rw [h2] at hx; cases hx; exact (dig_not hd).2.1 rfl
/-- What stands between the number and the name. -/
def between (l : List UInt8) : List UInt8 := match l with
  | [] => []
  | c :: _ => if isDig c = true ∨ c = 95 then [95] else []
theorem between_ok (l : List UInt8) : Between (between l) l := by
  cases l with
  | nil => exact .inr ⟨rfl, fun c t h => by cases h⟩
  | cons c t =>
    by_cases h : isDig c = true ∨ c = 95
    · exact .inl (by simp only [between, if_pos h])
    · refine .inr ⟨by simp only [between, if_neg h], fun c' t' e => ?_⟩
      cases e
      exact ⟨by simpa using fun h1 => h (.inl h1), fun h1 => h (.inr h1)⟩
end Go.Proofs.YtokjbdofpdncdaaDoor
