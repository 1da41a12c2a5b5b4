/- The written form of a plain name: the walks. -/
import Derived.Test.YtoefegbbnaonoaaGreatDoorCounted
namespace Go.Proofs.YtoefegbbnaonoaaGreatDoor
open Go.RowKit Go.Lib
set_option linter.unusedVariables false
set_option maxRecDepth 100000

section
attribute [local go_sem] bs_size bs_toList
theorem idDigit_yes {c : UInt8} (h : isDig c = true) (w : World) :
    Calls Tryz.prog 68 #[.int .u8 (c.toNat : Int)] w fun e w' => e = .returned (.bool true) ∧ w = w' := by
  have h' : 48 ≤ c.toNat ∧ c.toNat ≤ 57 := of_decide_eq_true h
  clear h
  have t1 : 48 ≤ (c.toNat : Int) := by omega
  have t2 : (c.toNat : Int) ≤ 57 := by omega
  go_enter Tryz.func68, Tryz.ntmps68
  go_wp2
  go_ret
  exact ⟨rfl, rfl⟩
theorem idDigit_no {c : UInt8} (h : isDig c = false) (w : World) :
    Calls Tryz.prog 68 #[.int .u8 (c.toNat : Int)] w fun e w' => e = .returned (.bool false) ∧ w = w' := by
  have h' : ¬ (48 ≤ c.toNat ∧ c.toNat ≤ 57) := of_decide_eq_false h
  clear h
  by_cases h1 : 48 ≤ c.toNat
  · have t1 : 48 ≤ (c.toNat : Int) := by omega
    have t2 : ¬ (c.toNat : Int) ≤ 57 := by omega
    go_enter Tryz.func68, Tryz.ntmps68
    go_wp2
    go_ret
    exact ⟨rfl, rfl⟩
  · have t1 : ¬ 48 ≤ (c.toNat : Int) := by omega
    go_enter Tryz.func68, Tryz.ntmps68
    go_wp2
    go_ret
    exact ⟨rfl, rfl⟩
theorem idLetter_yes {c : UInt8} (h : (65 ≤ c.toNat ∧ c.toNat ≤ 90) ∨ (97 ≤ c.toNat ∧ c.toNat ≤ 122)) (w : World) :
    Calls Tryz.prog 69 #[.int .u8 (c.toNat : Int)] w fun e w' => e = .returned (.bool true) ∧ w = w' := by
  rcases h with h | h
  · have t1 : 65 ≤ (c.toNat : Int) := by omega
    have t2 : (c.toNat : Int) ≤ 90 := by omega
    go_enter Tryz.func69, Tryz.ntmps69
    go_wp2
    go_ret
    exact ⟨rfl, rfl⟩
  · have t1 : 65 ≤ (c.toNat : Int) := by omega
    have t2 : ¬ (c.toNat : Int) ≤ 90 := by omega
    have t3 : 97 ≤ (c.toNat : Int) := by omega
    have t4 : (c.toNat : Int) ≤ 122 := by omega
    go_enter Tryz.func69, Tryz.ntmps69
    go_wp2
    go_ret
    exact ⟨rfl, rfl⟩

theorem idPlain_yes {l : List UInt8} (hp : l.all plainB = true) (hl : l.length ≤ 1000000) (w : World) :
    Calls Tryz.prog 43 #[.string (bs l)] w fun e w' => e = .returned (.bool true) ∧ w = w' := by
  have hc := Lib.hid (List.all_eq_true.1 hp)
  clear hp
  go_enter Tryz.func43, Tryz.ntmps43
  go_wp2_with fail
  go_loop [6] (fun i => ∃ k : Nat, k ≤ l.length ∧ i = .int .i64 k) (fun i => ((l.length : Int) - RowKit.intOf i).toNat)
  case atStart => exact ⟨0, by omega, rfl⟩
  case round =>
    obtain ⟨k, hk, rfl⟩ := hrel
    by_cases hk2 : k < l.length
    · have hpc := plain_cases (hc.out l[k] (List.getElem_mem _))
      have hg := bs_get l k (by rw [bs_size]; exact hk2)
      obtain ⟨d, hcc⟩ : ∃ c, l[k] = c := ⟨_, rfl⟩
      rw [hcc] at hpc hg
      clear hcc
      have hz : k ≤ 1000000 := by omega
      by_cases hd : 48 ≤ d.toNat ∧ d.toNat ≤ 57
      · have HD := Lib.hid (idDigit_yes (c := d) (decide_eq_true hd))
        clear hpc hd
        go_wp2_with (go_at_call 68; refine (HD.out _).mono ?_; rintro e w2 ⟨rfl, rfl⟩)
        go_round
        case rel => exact ⟨k + 1, by omega, by go_num⟩
        case measure => simp [RowKit.intOf]; omega
      · have HD := Lib.hid (idDigit_no (c := d) (decide_eq_false hd))
        by_cases h95 : d.toNat = 95
        · obtain rfl : d = 95 := UInt8.toNat_inj.1 h95
          have cb : ((95 : UInt8).toNat : Int) = 95 := rfl
          clear hpc hd h95
          go_wp2_with (go_at_call 68; refine (HD.out _).mono ?_; rintro e w2 ⟨rfl, rfl⟩)
          go_round
          case rel => exact ⟨k + 1, by omega, by go_num⟩
          case measure => simp [RowKit.intOf]; omega
        · have HL := Lib.hid (idLetter_yes (c := d) (by omega))
          have cb : ((d.toNat : Int) == 95) = false := by simp; omega
          have cb2 : ((d.toNat : Int) != 95) = true := by simp; omega
          clear hpc hd h95
          go_wp2_with (first | (go_at_call 68; refine (HD.out _).mono ?_; rintro e w2 ⟨rfl, rfl⟩) | (go_at_call 69; refine (HL.out _).mono ?_; rintro e w2 ⟨rfl, rfl⟩))
          go_round
          case rel => exact ⟨k + 1, by omega, by go_num⟩
          case measure => simp [RowKit.intOf]; omega
    · have hk3 : k = l.length := by omega
      subst hk3
      go_wp2_with fail
      go_ret
      exact ⟨rfl, rfl⟩

attribute [local go_sem] bs_get0 in
theorem idCounted_any {w : World} {B : Nat} (hp : Pow w B) (c : UInt8) (l : List UInt8) (hl : (c :: l).length ≤ 1000000) :
    Calls Tryz.prog 44 #[.string (bs (c :: l))] w fun e w' => e = .returned (.string (bs (counted (between (c :: l)) (c :: l)))) ∧ Below w.heap.size w w' := by
  have HI := Lib.hid (itoa_any hp (c :: l).length (by omega))
  have hd := decDigits_len 9 (c :: l).length (by omega)
  have hne : ((c :: l) == ([] : List UInt8)) = false := rfl
  have hne2 : ((c :: l) != ([] : List UInt8)) = true := rfl
  have hpos : 0 < (bs (c :: l)).size := by rw [bs_size]; simp
  simp only [List.length_cons] at HI
  by_cases h : isDig c = true ∨ c = 95
  · have e : between (c :: l) = [95] := by simp only [between, if_pos h]
    rw [e]
    have a1 : ∀ W, (Op.stringOp .add (bs (decDigits (l.length + 1))) ⟨#[95]⟩).run Tryz.prog W = .ok (.string (bs (decDigits (l.length + 1) ++ [95]))) W := add_bs _ [95] (by simp at hd hl ⊢; omega)
    have a2 : ∀ W, (Op.stringOp .add (bs (decDigits (l.length + 1) ++ [95])) (bs (c :: l))).run Tryz.prog W = .ok (.string (bs (counted [95] (c :: l)))) W := fun W => by rw [add_bs _ _ (by simp at hd hl ⊢; omega) W]; simp [counted]
    clear hl hd hp e
    cases hdg : isDig c with
    | true =>
      have HD := Lib.hid (idDigit_yes hdg)
      clear h hdg
      go_enter Tryz.func44, Tryz.ntmps44
      go_wp2_with (first | (go_at_call 68; refine (HD.out _).mono ?_; rintro e w2 ⟨rfl, rfl⟩) | (go_at_call 33; refine (HI.out).mono ?_; rintro e w2 ⟨rfl, hb2⟩))
      go_ret
      exact ⟨rfl, hb2⟩
    | false =>
      have HD := Lib.hid (idDigit_no hdg)
      rw [hdg] at h
      obtain rfl : c = 95 := by simpa using h
      have cb : ((95 : UInt8).toNat : Int) = 95 := rfl
      clear h hdg
      go_enter Tryz.func44, Tryz.ntmps44
      go_wp2_with (first | (go_at_call 68; refine (HD.out _).mono ?_; rintro e w2 ⟨rfl, rfl⟩) | (go_at_call 33; refine (HI.out).mono ?_; rintro e w2 ⟨rfl, hb2⟩))
      go_ret
      exact ⟨rfl, hb2⟩
  · have e : between (c :: l) = [] := by simp only [between, if_neg h]
    rw [e]
    have a1 : ∀ W, (Op.stringOp .add (bs (decDigits (l.length + 1))) ⟨#[]⟩).run Tryz.prog W = .ok (.string (bs (decDigits (l.length + 1)))) W := fun W => by
      have := add_bs (P := Tryz.prog) (decDigits (l.length + 1)) [] (by simp at hd hl ⊢; omega) W
      rw [List.append_nil] at this
      exact this
    have a2 : ∀ W, (Op.stringOp .add (bs (decDigits (l.length + 1))) (bs (c :: l))).run Tryz.prog W = .ok (.string (bs (counted [] (c :: l)))) W := fun W => by rw [add_bs _ _ (by simp at hd hl ⊢; omega) W]; simp [counted]
    have HD := Lib.hid (idDigit_no (c := c) (by simpa using fun h1 => h (.inl h1)))
    have h95 : c.toNat ≠ 95 := fun h1 => h (.inr (UInt8.toNat_inj.1 h1))
    have cb : ((c.toNat : Int) == 95) = false := by simp; omega
    clear hl hd hp e h h95
    go_enter Tryz.func44, Tryz.ntmps44
    go_wp2_with (first | (go_at_call 68; refine (HD.out _).mono ?_; rintro e w2 ⟨rfl, rfl⟩) | (go_at_call 33; refine (HI.out).mono ?_; rintro e w2 ⟨rfl, hb2⟩))
    go_ret
    exact ⟨rfl, hb2⟩

theorem idWritten_any {w : World} {B : Nat} (hp : Pow w B) {l : List UInt8} (hne : l ≠ []) (hpl : l.all plainB = true) (hl : l.length ≤ 1000000) :
    Calls Tryz.prog 36 #[.string (bs l)] w fun e w' => e = .returned (.string (bs (counted (between l) l))) ∧ Below w.heap.size w w' := by
  have HP := Lib.hid (idPlain_yes hpl hl)
  have HC := Lib.hid (show Calls Tryz.prog 44 #[.string (bs l)] w fun e w' => e = .returned (.string (bs (counted (between l) l))) ∧ Below w.heap.size w w' by
    cases l with
    | nil => exact absurd rfl hne
    | cons c l => exact idCounted_any hp c l hl)
  have e1 : (l == []) = false := by cases l with
    | nil => exact absurd rfl hne
    | cons c l => rfl
  clear hp hne hpl hl
  go_enter Tryz.func36, Tryz.ntmps36
  go_wp2_with (first | (go_at_call 43; refine (HP.out _).mono ?_; rintro e w2 ⟨rfl, rfl⟩) | (go_at_call 44; refine (HC.out).mono ?_; rintro e w2 ⟨rfl, hb2⟩))
  go_ret
  exact ⟨rfl, hb2⟩
end
end Go.Proofs.YtoefegbbnaonoaaGreatDoor
