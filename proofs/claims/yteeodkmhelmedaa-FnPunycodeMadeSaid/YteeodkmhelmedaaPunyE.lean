/- The writer of Punycode, piece by piece, against the reader: pure. -/
import Derived.Test.YteeodkmhelmedaaPFnPunycodeMadex1
import Derived.Test.YteeodkmhelmedaaPunyP
namespace Go.Proofs.Yteeodkmhelmedaa
open Go.RowKit Go.Proofs.Yteeodkmhelmedaa.PFnPunycodeMade Go.Proofs.YteeodkmhelmedaaW.PrintWords Go.Proofs.YteeodkmhelmedaaW.PrintLast Go.Proofs.YteeodkmhelmedaaW.PrintMore
set_option linter.unusedVariables false

theorem e64 {x : Int} (h0 : 0 ≤ x) (h1 : x ≤ 9000000000000000000) : wrap64 x = x := by unfold wrap64; omega
/-- A character that is made. -/
def ChOk (n : Nat) : Prop := n < 128 ∨ (160 ≤ n ∧ pscalar n = true)
theorem ChOk.le {n : Nat} (h : ChOk n) : n ≤ 1114111 := by
  rcases h with h | ⟨_, h⟩
  · omega
  · unfold pscalar at h
    simp only [Bool.or_eq_true, Bool.and_eq_true, decide_eq_true_eq] at h
    omega
theorem ChOk.scalar {n : Nat} (h : ChOk n) : pscalar n = true := by
  rcases h with h | ⟨_, h⟩
  · unfold pscalar
    rw [decide_eq_true (show n < 55296 by omega)]
    rfl
  · exact h
theorem anTab_small : ∀ k : Nat, k < 63 → bt (⟨#[97, 98, 99, 100, 101, 102, 103, 104, 105, 106, 107, 108, 109, 110, 111, 112, 113, 114, 115, 116, 117, 118, 119, 120, 121, 122, 65, 66, 67, 68, 69, 70, 71, 72, 73, 74, 75, 76, 77, 78, 79, 80, 81, 82, 83, 84, 85, 86, 87, 88, 89, 90, 48, 49, 50, 51, 52, 53, 54, 55, 56, 57, 95]⟩ : ByteArray) (k : Int) < 128 := by decide +kernel
theorem char_ok (z : Int) (h0 : -9223372036854775808 ≤ z) (h1 : z ≤ 9223372036854775807) : ∃ n : Nat, spec_anCharacter.f z = some (n : Int) ∧ ChOk n := by
  obtain ⟨x, hx⟩ : ∃ x, Int.tmod z 1114112 = x := ⟨_, rfl⟩
  have hx1 : -1114112 < x ∧ x < 1114112 := by
    have h2 := Int.tmod_lt_of_pos z (show (0 : Int) < 1114112 by decide)
    have h3 := Int.tmod_lt_of_pos (-z) (show (0 : Int) < 1114112 by decide)
    rw [Int.neg_tmod] at h3
    omega
  have e1 : wrap64 (x + 1114112) = x + 1114112 := by unfold wrap64; omega
  obtain ⟨m, hm⟩ : ∃ m : Nat, Int.tmod (x + 1114112) 1114112 = (m : Int) := by
    rw [Int.tmod_eq_emod_of_nonneg (by omega)]
    exact ⟨((x + 1114112) % 1114112).toNat, by omega⟩
  have hm2 : m < 1114112 := by
    have := Int.tmod_lt_of_pos (x + 1114112) (show (0 : Int) < 1114112 by decide)
    omega
  unfold spec_anCharacter.f
  rw [hx, e1, hm]
  by_cases c1 : m < 160
  · rw [if_pos (by omega)]
    have e2 : Int.tmod (m : Int) 63 = ((m % 63 : Nat) : Int) := rfl
    have hk : m % 63 < 63 := Nat.mod_lt _ (by decide)
    rw [e2, if_pos (by omega), if_pos (by omega)]
    have hb := anTab_small (m % 63) hk
    have hr := bt_range (⟨#[97, 98, 99, 100, 101, 102, 103, 104, 105, 106, 107, 108, 109, 110, 111, 112, 113, 114, 115, 116, 117, 118, 119, 120, 121, 122, 65, 66, 67, 68, 69, 70, 71, 72, 73, 74, 75, 76, 77, 78, 79, 80, 81, 82, 83, 84, 85, 86, 87, 88, 89, 90, 48, 49, 50, 51, 52, 53, 54, 55, 56, 57, 95]⟩ : ByteArray) ((m % 63 : Nat) : Int)
    generalize bt (⟨#[97, 98, 99, 100, 101, 102, 103, 104, 105, 106, 107, 108, 109, 110, 111, 112, 113, 114, 115, 116, 117, 118, 119, 120, 121, 122, 65, 66, 67, 68, 69, 70, 71, 72, 73, 74, 75, 76, 77, 78, 79, 80, 81, 82, 83, 84, 85, 86, 87, 88, 89, 90, 48, 49, 50, 51, 52, 53, 54, 55, 56, 57, 95]⟩ : ByteArray) ((m % 63 : Nat) : Int) = y at *
    exact ⟨y.toNat, by rw [e64 (by omega) (by omega)]; congr 1; omega, .inl (by omega)⟩
  · rw [if_neg (by omega)]
    by_cases c2 : 55296 ≤ m
    · rw [if_pos (by omega)]
      by_cases c3 : m ≤ 57343
      · rw [if_pos (by omega)]
        refine ⟨m - 2048, ?_, .inr ⟨by omega, ?_⟩⟩
        · first
            | (rw [e64 (by omega) (by omega)]; congr 1; omega)
            | (congr 1; omega)
        · unfold pscalar
          rw [decide_eq_true (show m - 2048 < 55296 by omega)]
          rfl
      · rw [if_neg (by omega)]
        refine ⟨m, rfl, .inr ⟨by omega, ?_⟩⟩
        unfold pscalar
        rw [decide_eq_true (show 57343 < m by omega), decide_eq_true (show m ≤ 1114111 by omega)]
        simp
    · rw [if_neg (by omega)]
      refine ⟨m, rfl, .inr ⟨by omega, ?_⟩⟩
      unfold pscalar
      rw [decide_eq_true (show m < 55296 by omega)]
      rfl

/-- Characters as whole numbers. -/
def ints (L : List Nat) : List Int := L.map Int.ofNat
theorem rd_ints (L : List Nat) (i : Nat) (h : i < L.length) : rd (ints L) (i : Int) = (L[i] : Int) := by
  unfold rd ints
  simp [h]
theorem ints_len (L : List Nat) : (ints L).length = L.length := by simp [ints]
theorem ints_snoc (L : List Nat) (n : Nat) : ints L ++ [(n : Int)] = ints (L ++ [n]) := by simp [ints]

theorem chars_eq (zs : List Int) (hz : ∀ z ∈ zs, -9223372036854775808 ≤ z ∧ z ≤ 9223372036854775807) (hl : zs.length ≤ 1000) : ∀ (j i k : Nat) (acc : List Nat) (high : Bool), i + j = zs.length → j < k → acc.length = i → (∀ c ∈ acc, ChOk c) → (high = true → ∃ c ∈ acc, 128 ≤ c) →
    ∃ L : List Nat, spec_AnCharacters.l0 k (ints acc) high zs (zs.length : Int) (i : Int) = some (ints L) ∧ L.length ≤ 1001 ∧ (∀ c ∈ L, ChOk c) ∧ ∃ c ∈ L, 128 ≤ c
  | 0, i, k, acc, high, h1, h2, h3, h4, h5 => by
    obtain ⟨k, rfl⟩ : ∃ j, k = j + 1 := ⟨k - 1, by omega⟩
    rw [spec_AnCharacters.l0, if_neg (by omega)]
    cases high with
    | true =>
      rw [if_pos rfl]
      exact ⟨acc, rfl, by omega, h4, h5 rfl⟩
    | false =>
      rw [if_neg (by decide), if_pos (by rw [ints_len]; omega)]
      refine ⟨acc ++ [233], by rw [← ints_snoc]; rfl, by simp; omega, ?_, 233, by simp, by decide⟩
      intro c hc
      rcases List.mem_append.1 hc with hc | hc
      · exact h4 c hc
      · rw [List.mem_singleton.1 hc]
        exact .inr ⟨by decide, by decide⟩
  | j + 1, i, k, acc, high, h1, h2, h3, h4, h5 => by
    obtain ⟨k, rfl⟩ : ∃ j, k = j + 1 := ⟨k - 1, by omega⟩
    have hi : i < zs.length := by omega
    have hrd : rd zs (i : Int) = zs[i] := by unfold rd; simp [hi]
    obtain ⟨n, hn, hok⟩ := char_ok zs[i] (hz _ (List.getElem_mem _)).1 (hz _ (List.getElem_mem _)).2
    rw [spec_AnCharacters.l0, if_pos (by omega), if_pos (by omega), if_pos (by omega), hrd, hn]
    simp only [Option.bind_some]
    have h4' : ∀ c ∈ acc ++ [n], ChOk c := by
      intro c hc
      rcases List.mem_append.1 hc with hc | hc
      · exact h4 c hc
      · rw [List.mem_singleton.1 hc]; exact hok
    have e1 : wrap64 ((i : Int) + 1) = ((i + 1 : Nat) : Int) := by rw [e64 (by omega) (by omega)]; push_cast; rfl
    cases high with
    | true =>
      rw [if_pos rfl, if_pos (by rw [ints_len]; omega), ints_snoc, e1]
      obtain ⟨c, hc, hc2⟩ := h5 rfl
      exact chars_eq zs hz hl j (i + 1) k (acc ++ [n]) true (by omega) (by omega) (by simp; omega) h4' (fun _ => ⟨c, by simp [hc], hc2⟩)
    | false =>
      rw [if_neg (by decide), if_pos (by rw [ints_len]; omega), ints_snoc, e1]
      exact chars_eq zs hz hl j (i + 1) k (acc ++ [n]) _ (by omega) (by omega) (by simp; omega) h4' (fun h => ⟨n, by simp, by have := of_decide_eq_true h; omega⟩)

/-- The least character from a number on. -/
def NextIs (L : List Nat) (least : Nat) (r : Int) : Prop := (r = -1 ∧ ∀ c ∈ L, c < least) ∨ ∃ n : Nat, r = (n : Int) ∧ n ∈ L ∧ least ≤ n ∧ ∀ c ∈ L, least ≤ c → n ≤ c
theorem next_eq (L : List Nat) (least : Nat) (hl : L.length ≤ 1000000) : ∀ (j i k : Nat) (x : Int), i + j = L.length → j < k → NextIs (L.take i) least x → ∃ r, spec_idNext.l0 k (least : Int) x (ints L) (L.length : Int) (i : Int) = some r ∧ NextIs L least r
  | 0, i, k, x, h1, h2, h3 => by
    obtain ⟨k, rfl⟩ : ∃ j, k = j + 1 := ⟨k - 1, by omega⟩
    rw [spec_idNext.l0, if_neg (by omega)]
    rw [show i = L.length by omega, List.take_length] at h3
    exact ⟨x, rfl, h3⟩
  | j + 1, i, k, x, h1, h2, h3 => by
    obtain ⟨k, rfl⟩ : ∃ j, k = j + 1 := ⟨k - 1, by omega⟩
    have hi : i < L.length := by omega
    have e1 : wrap64 ((i : Int) + 1) = ((i + 1 : Nat) : Int) := by rw [e64 (by omega) (by omega)]; push_cast; rfl
    have hm : ∀ c, c ∈ L.take (i + 1) ↔ c ∈ L.take i ∨ c = L[i] := fun c => by rw [List.take_succ_eq_append_getElem hi, List.mem_append, List.mem_singleton]
    rw [spec_idNext.l0, if_pos (by omega), if_pos (by omega), if_pos (by rw [ints_len]; omega), rd_ints L i hi, e1]
    by_cases c1 : least ≤ L[i]
    · rw [if_pos (by omega)]
      have take : (∀ c ∈ L.take i, least ≤ c → L[i] ≤ c) → NextIs (L.take (i + 1)) least (L[i] : Int) := fun h => .inr ⟨L[i], rfl, (hm _).2 (.inr rfl), c1, fun c hc hlc => by
        rcases (hm c).1 hc with hc | hc
        · exact h c hc hlc
        · omega⟩
      rcases h3 with ⟨rfl, h3⟩ | ⟨n, rfl, hn, hln, hmin⟩
      · rw [if_pos (by omega)]
        exact next_eq L least hl j (i + 1) k _ (by omega) (by omega) (take fun c hc hlc => by have := h3 c hc; omega)
      · rw [if_neg (by omega)]
        by_cases c2 : L[i] < n
        · rw [if_pos (by omega)]
          exact next_eq L least hl j (i + 1) k _ (by omega) (by omega) (take fun c hc hlc => by have := hmin c hc hlc; omega)
        · rw [if_neg (by omega)]
          exact next_eq L least hl j (i + 1) k _ (by omega) (by omega) (.inr ⟨n, rfl, (hm _).2 (.inl hn), hln, fun c hc hlc => by
            rcases (hm c).1 hc with hc | hc
            · exact hmin c hc hlc
            · omega⟩)
    · rw [if_neg (by omega)]
      refine next_eq L least hl j (i + 1) k _ (by omega) (by omega) ?_
      rcases h3 with ⟨rfl, h3⟩ | ⟨n, rfl, hn, hln, hmin⟩
      · exact .inl ⟨rfl, fun c hc => by
          rcases (hm c).1 hc with hc | hc
          · exact h3 c hc
          · omega⟩
      · exact .inr ⟨n, rfl, (hm _).2 (.inl hn), hln, fun c hc hlc => by
          rcases (hm c).1 hc with hc | hc
          · exact hmin c hc hlc
          · omega⟩
end Go.Proofs.Yteeodkmhelmedaa
