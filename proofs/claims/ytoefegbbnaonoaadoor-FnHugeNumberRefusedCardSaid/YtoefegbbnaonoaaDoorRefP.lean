/- Which whole names are refused: those of unknown letters, huge numbers, numbers that break off. No memory. -/
import Derived.Test.YtoefegbbnaonoaaDoorTold
import Derived.Test.YtoefegbbnaonoaaDoorCounted
namespace Go.Proofs.YtoefegbbnaonoaaDoor
open Go.RowKit Go.Lib
set_option linter.unusedVariables false

theorem form_of {l : List UInt8} (h : ∀ c ∈ l, plainB c = true) (hl : l.length ≤ 9000000000) : NameForm (95 :: 82 :: l) := by
  have hp : ∀ c : UInt8, plainB c = true → c ≠ 46 := fun c hc e => by subst e; exact absurd hc (by decide)
  refine ⟨⟨?_, by simp⟩, dotAt_none ?_, by simp; omega⟩
  · simp [Lib.hasPrefix]
  · intro c hc
    rcases List.mem_cons.1 hc with rfl | hc
    · decide
    · rcases List.mem_cons.1 hc with rfl | hc
      · decide
      · exact hp c (h c hc)

/-! Unknown letters. -/
def unkTab : List UInt8 := [65, 68, 69, 70, 71, 72, 74, 75, 76, 79, 80, 81, 82, 83, 84, 85, 86, 87, 90, 95, 97, 98, 99, 100, 101, 102, 103, 104, 105, 106, 107, 108, 109, 110, 111, 112, 113, 114, 115, 116, 117, 118, 119, 120, 121, 122]
def unkL (k : Nat) : UInt8 := unkTab.getD k 0
theorem unkL_ok : ∀ k, k < 46 → plainB (unkL k) = true ∧ isDig (unkL k) = false ∧ unkL k ≠ 67 ∧ unkL k ≠ 78 ∧ ¬ (unkL k = 77 ∨ unkL k = 88 ∨ unkL k = 89 ∨ unkL k = 73 ∨ unkL k = 66) := by decide +kernel
theorem falls_unknown {k : Nat} (hk : k < 46) {l : List UInt8} (h : l.all plainB = true) (hl : l.length ≤ 8000000000) : NameFalls (95 :: 82 :: unkL k :: l) := by
  obtain ⟨h1, h2, h3, h4, h5⟩ := unkL_ok k hk
  refine ⟨form_of (fun c hc => ?_) (by simp; omega), 1, ?_⟩
  · rcases List.mem_cons.1 hc with rfl | hc
    · exact h1
    · exact List.all_eq_true.1 h c hc
  · show rsym 1 { orig := bs (unkL k :: l), str := unkL k :: l } = some none
    unfold rsym
    simp only
    rw [if_neg (by rw [h2]; simp)]
    have : rpath 1 { orig := bs (unkL k :: l), str := unkL k :: l } = some none := by
      unfold rpath
      simp only
      rw [if_neg h3, if_neg h4, if_neg h5]
    rw [this]

/-! Huge numbers. -/
theorem pow10_pos : ∀ m : Nat, (1 : Int) ≤ 10 ^ m := by
  intro m
  induction m with
  | zero => decide
  | succ m ih => rw [Int.pow_succ]; omega
theorem decgo_huge : ∀ (ds : List UInt8) (v : Int) (t : List UInt8), (∀ c ∈ ds, isDig c = true) → 1 ≤ v → ds ≠ [] → 214748364 ≤ v * 10 ^ (ds.length - 1) → decgo v (ds ++ t) = none := by
  intro ds
  induction ds with
  | nil => intro v t _ _ h; exact absurd rfl h
  | cons c ds ih =>
    intro v t hd hv _ hb
    have hc := hd c (List.mem_cons_self ..)
    have hc' : 48 ≤ c.toNat ∧ c.toNat ≤ 57 := of_decide_eq_true hc
    show decgo v (c :: (ds ++ t)) = none
    unfold decgo
    rw [if_pos hc]
    by_cases ho : 214748364 - ((c.toNat : Int) - 48) ≤ v
    · rw [if_pos ho]
    · rw [if_neg ho]
      have hne : ds ≠ [] := by
        rintro rfl
        simp at hb
        omega
      obtain ⟨m, hm⟩ : ∃ m, ds.length = m + 1 := ⟨ds.length - 1, by have := List.length_pos_iff.2 hne; omega⟩
      refine ih _ t (fun x hx => hd x (List.mem_cons_of_mem _ hx)) (by omega) hne ?_
      rw [hm]
      simp only [List.length_cons, hm, Nat.add_sub_cancel] at hb ⊢
      have hpw : (1 : Int) ≤ 10 ^ m := pow10_pos m
      have e : v * 10 ^ (m + 1) = (v * 10) * 10 ^ m := by rw [Int.pow_succ, Int.mul_comm (10 ^ m) 10, Int.mul_assoc]
      rw [e] at hb
      refine Int.le_trans hb (Int.mul_le_mul_of_nonneg_right (by omega) (by omega))
theorem falls_huge {ds l : List UInt8} (hd : ∀ c ∈ ds, isDig c = true) (hn : 10 ≤ ds.length) (hl1 : ds.length ≤ 100) (h : l.all plainB = true) (hl : l.length ≤ 8000000000) : NameFalls (95 :: 82 :: 67 :: 49 :: (ds ++ l)) := by
  have hdec : dec (49 :: (ds ++ l)) = none := by
    show decgo 0 (49 :: (ds ++ l)) = none
    unfold decgo
    rw [if_pos (by decide), if_neg (by decide)]
    show decgo 1 (ds ++ l) = none
    refine decgo_huge ds 1 l hd (by decide) (by rintro rfl; simp at hn) ?_
    obtain ⟨m, hm⟩ : ∃ m, ds.length - 1 = 9 + m := ⟨ds.length - 10, by omega⟩
    rw [hm, Int.pow_add]
    have hpw : (1 : Int) ≤ 10 ^ m := pow10_pos m
    have : (10 : Int) ^ 9 * 1 ≤ 10 ^ 9 * 10 ^ m := Int.mul_le_mul_of_nonneg_left hpw (by decide)
    have e9 : (10 : Int) ^ 9 = 1000000000 := by decide
    omega
  have hid : identAll (49 :: (ds ++ l)) = none := by
    unfold identAll
    have : disa (49 :: (ds ++ l)) = some (0, 49 :: (ds ++ l)) := rfl
    rw [this]
    simp only
    unfold ident
    rw [hdec]
    rfl
  have hu : uIn (49 :: (ds ++ l)) = false := by
    unfold uIn
    have : disa (49 :: (ds ++ l)) = some (0, 49 :: (ds ++ l)) := rfl
    rw [this]
    simp
  refine ⟨form_of (fun c hc => ?_) (by simp; omega), 1, ?_⟩
  · rcases List.mem_cons.1 hc with rfl | hc
    · decide
    · rcases List.mem_cons.1 hc with rfl | hc
      · decide
      · rcases List.mem_append.1 hc with hc | hc
        · have := of_decide_eq_true (hd c hc)
          exact decide_eq_true (.inl this)
        · exact List.all_eq_true.1 h c hc
  · show rsym 1 { orig := bs (67 :: 49 :: (ds ++ l)), str := 67 :: 49 :: (ds ++ l) } = some none
    unfold rsym
    simp only
    rw [if_neg (by decide)]
    have : rpath 1 { orig := bs (67 :: 49 :: (ds ++ l)), str := 67 :: 49 :: (ds ++ l) } = some none := by
      unfold rpath
      simp only
      rw [if_pos trivial, if_neg (by rw [hu]; simp), hid]
    rw [this]

/-! Numbers that break off. -/
theorem noId_nil : identAll [] = none ∧ uIn [] = false := by decide
theorem noId_cut {x j : Nat} (hx : x < 4611686018427387904) : identAll ((115 :: b62of x).take j) = none ∧ uIn ((115 :: b62of x).take j) = false := by
  cases j with
  | zero => exact noId_nil
  | succ j =>
    show identAll (115 :: (b62of x).take j) = none ∧ uIn (115 :: (b62of x).take j) = false
    by_cases hj : j < (b62of x).length
    · have hd : disa (115 :: (b62of x).take j) = none := by
        show (b62 ((b62of x).take j)).map _ = none
        rw [b62_cut hj]
        rfl
      exact ⟨by unfold identAll; rw [hd], by unfold uIn; rw [hd]⟩
    · rw [List.take_of_length_le (by omega)]
      have hd : disa (115 :: b62of x) = some (wrap64 ((x : Int) + 1), []) := by
        show (b62 (b62of x)).map _ = _
        have := b62_read (n := x) (by omega) []
        rw [List.append_nil] at this
        rw [this]
        rfl
      exact ⟨by unfold identAll; rw [hd]; rfl, by unfold uIn; rw [hd]⟩
theorem b62of_plain (n : Nat) : ∀ c ∈ b62of n, plainB c = true := by
  have hd : ∀ k, k < 62 → plainB (dig k) = true := by decide +kernel
  have key : ∀ (n : Nat) (acc : List UInt8), (∀ c ∈ acc, plainB c = true) → ∀ c ∈ digsAcc n acc, plainB c = true := by
    intro n
    induction n using Nat.strongRecOn with
    | _ n ih =>
      intro acc ha
      by_cases h : n = 0
      · subst h; rw [digsAcc_zero]; exact ha
      · rw [digsAcc_pos h]
        refine ih _ (by omega) _ ?_
        intro c hc
        rcases List.mem_cons.1 hc with rfl | hc
        · exact hd _ (by omega)
        · exact ha c hc
  unfold b62of
  split
  · decide
  · refine key _ _ ?_
    intro c hc
    rcases List.mem_cons.1 hc with rfl | hc
    · exact hd _ (by omega)
    · rcases List.mem_cons.1 hc with rfl | hc
      · decide
      · cases hc
/-- The closure's name without its end. -/
def cutG (x j : Nat) : List UInt8 := ([78, 67, 67, 49, 97] ++ 115 :: b62of x).take j
theorem falls_cut {x j : Nat} (hx : x < 4611686018427387904) (hj : 2 ≤ j) : NameFalls (95 :: 82 :: cutG x j) := by
  have hlen := b62of_length x (by omega)
  refine ⟨form_of (fun c hc => ?_) (by unfold cutG; simp; omega), 3, ?_⟩
  · have hc' : c ∈ [78, 67, 67, 49, 97] ++ 115 :: b62of x := List.mem_of_mem_take hc
    rcases List.mem_append.1 hc' with hc | hc
    · revert c
      intro c _ hc' hc
      revert hc
      have : ∀ c ∈ ([78, 67, 67, 49, 97] : List UInt8), plainB c = true := by decide
      exact this c
    · rcases List.mem_cons.1 hc with rfl | hc
      · decide
      · exact b62of_plain x c hc
  · show rsym 3 { orig := bs (cutG x j), str := cutG x j } = some none
    have body : ∀ (t : List UInt8), (t = [] ∨ t = [67] ∨ t = [67, 49] ∨ ∃ i, t = 67 :: 49 :: 97 :: (115 :: b62of x).take i) → cutG x j = 78 :: 67 :: t → rsym 3 { orig := bs (cutG x j), str := cutG x j } = some none := by
      intro t ht hG
      rw [hG]
      unfold rsym
      simp only
      rw [if_neg (by decide)]
      have : rpath 3 { orig := bs (78 :: 67 :: t), str := 78 :: 67 :: t } = some none := by
        unfold rpath
        simp only
        rw [if_neg (by decide), if_pos trivial, if_pos (by decide)]
        rcases ht with rfl | rfl | rfl | ⟨i, rfl⟩
        · rfl
        · have : rpath 2 (St.on { orig := bs [78, 67, 67], str := [78, 67, 67] } [67]) = some none := by
            unfold rpath
            simp only [St.on]
            rw [if_pos trivial, if_neg (by decide)]
            rfl
          rw [this]
        · have : rpath 2 (St.on { orig := bs [78, 67, 67, 49], str := [78, 67, 67, 49] } [67, 49]) = some none := by
            unfold rpath
            simp only [St.on]
            rw [if_pos trivial, if_neg (by decide)]
            rfl
          rw [this]
        · obtain ⟨h1, h2⟩ := noId_cut (j := i) hx
          generalize hr : (115 :: b62of x).take i = r at h1 h2
          have hia : identAll (49 :: 97 :: r) = some (0, [97], r) ∧ uIn (49 :: 97 :: r) = false := by
            have := identAll_counted (k := 0) (by decide) (between_ok [97]) (by decide) (by decide) (by decide) r
            have e : disOf 0 ++ (counted (between [97]) [97] ++ r) = 49 :: 97 :: r := by
              have e1 : counted (between [97]) [97] = [49, 97] := by
                unfold counted
                rw [show ([97] : List UInt8).length = 1 from rfl, decDigits_small (by decide)]
                decide
              rw [e1]
              rfl
            rw [e] at this
            exact ⟨this.1, uIn_of this.2⟩
          have : rpath 2 (St.on { orig := bs (78 :: 67 :: 67 :: 49 :: 97 :: r), str := 78 :: 67 :: 67 :: 49 :: 97 :: r } (67 :: 49 :: 97 :: r)) = some (some (((St.on { orig := bs (78 :: 67 :: 67 :: 49 :: 97 :: r), str := 78 :: 67 :: 67 :: 49 :: 97 :: r } r)).putm [97])) := by
            unfold rpath
            simp only [St.on]
            rw [if_pos trivial, if_neg (by rw [hia.2]; simp), hia.1]
          rw [this]
          simp only
          rw [putm_str]
          show (if uIn r = true then none else _) = _
          rw [if_neg (by rw [h2]; simp)]
          show (match identAll r with | none => _ | some (d, nm, r') => _) = _
          rw [h1]
      rw [this]
    unfold cutG
    obtain ⟨i, rfl⟩ : ∃ i, j = i + 2 := ⟨j - 2, by omega⟩
    match i with
    | 0 => exact body [] (.inl rfl) rfl
    | 1 => exact body [67] (.inr (.inl rfl)) rfl
    | 2 => exact body [67, 49] (.inr (.inr (.inl rfl))) rfl
    | i + 3 => exact body _ (.inr (.inr (.inr ⟨i, rfl⟩))) rfl
end Go.Proofs.YtoefegbbnaonoaaDoor
