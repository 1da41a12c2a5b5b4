/- The writer of Punycode, and texts of characters: the walks. -/
import Derived.Test.YteeodkmhelmedaaPunyE2
import Derived.Test.YteeodkmhelmedaaLawPCut
namespace Go.Proofs.Yteeodkmhelmedaa
open Go.RowKit Go.Lib Go.Proofs.YteeodkmhelmedaaW.PrintWords
set_option linter.unusedVariables false
set_option maxRecDepth 100000
attribute [local go_sem] bs_size bs_toList

/-- A row of characters. -/
structure ChRow (w : World) (g cap : Nat) (L : List Nat) : Prop where
  c : Kd.C (Kd.int .i64) w (some ⟨g, 0, none⟩) (ints L).length (ints L)
  le : L.length ≤ cap
  lt : g < w.heap.size
  cell : ∀ i (h : i < L.length), w.cell? ⟨g, i, none⟩ = some (.int .i64 (L[i] : Int))
theorem ChRow.below {w w' : World} {g cap : Nat} {L : List Nat} (h : ChRow w g cap L) (hb : Below w.heap.size w w') : ChRow w' g cap L :=
  ⟨Kd.C_below h.c hb, h.le, Nat.lt_of_lt_of_le h.lt hb.size, fun i hi => (hb.cell (p := ⟨g, i, none⟩) h.lt).trans (h.cell i hi)⟩
theorem chRow_of {w : World} {base : Nat} {ok : Nat → Prop} {v : Value} {L : List Nat} (h : Kd.R (Kd.int .i64) 3 w base ok v (ints L)) (hL : L ≠ []) :
    ∃ g cap, v = .slice (some ⟨g, 0, none⟩) L.length cap ∧ ChRow w g cap L := by
  obtain ⟨A, c, hv, hle, hC⟩ := Kd.R_reads h
  obtain ⟨_, inner, ho, hr⟩ := h
  rw [ints_len] at hv hle
  have hpos := List.length_pos_iff.2 hL
  have ho2 := ho.2
  rw [ints_len] at ho2
  rcases ho2 with ⟨h3, h4⟩ | ⟨g, cap, cur, h3, hbg, hg, hn, hm, _⟩
  · omega
  · rw [h3] at hv
    injection hv with h5 h6 h7
    subst h5 h7
    refine ⟨g, cap, h3, hC, hle, (Array.getElem?_eq_some_iff.1 hg).1, fun i hi => ?_⟩
    obtain ⟨ad, e, hc⟩ := hC.2.2 (by rw [ints_len]; omega)
    obtain rfl := Option.some.inj e
    obtain ⟨cs, _, hK, hcell⟩ := hc i (L[i] : Int) (by simp [ints, hi])
    have hK' : cs = [.int .i64 (L[i] : Int)] := hK
    have := hcell 0 (.int .i64 (L[i] : Int)) (by rw [hK']; rfl)
    have e2 : (⟨g, 0, none⟩ : Addr).add (i * (Kd.int .i64).sz + 0) = ⟨g, i, none⟩ := by
      show (⟨g, 0, none⟩ : Addr).add (i * 1 + 0) = _
      rw [Nat.mul_one, Nat.add_zero, rn_add, Nat.zero_add]
    rwa [e2] at this

theorem runesBytes_snoc (l : List Int) (n : Int) : runesBytes (l ++ [n]) = runesBytes l ++ Utf8.encode n := by
  unfold runesBytes
  rw [List.foldl_append]
  rfl
theorem conv_rune (n : Int) (W : World) : (convert 21 9 (.int .i32 n)).run Try.prog W = .ok (.string (Utf8.encode n)) W := by rfl

set_option maxHeartbeats 2000000 in
theorem anString_any {w : World} {g cap : Nat} {L : List Nat} (hr : ChRow w g cap L) (hL : L.length ≤ 1001) (hok : ∀ c ∈ L, c ≤ 1114111) :
    Calls Try.prog 13 #[.slice (some ⟨g, 0, none⟩) L.length cap] w fun e w' => e = .returned (.string (pText L)) ∧ w = w' := by
  have HR := Lib.hid hr
  have HOK := Lib.hid hok
  clear hr hok
  go_enter Try.func13, Try.ntmps13
  go_wp2_with fail
  go_loopg [3, 8] L.length (fun gh s i wr => ∃ k : Nat, s = .string (pText (L.take k)) ∧ i = .int .i64 (k : Int) ∧ k + gh = L.length ∧ w = wr)
  case atStart => exact ⟨0, rfl, rfl, by omega, rfl⟩
  case round =>
    obtain ⟨k, rfl, rfl, hg, rfl⟩ := hrel
    by_cases hk : k < L.length
    · have ck := HR.out.cell k hk
      have hn := HOK.out L[k] (List.getElem_mem _)
      have hmore : pText (L.take (k + 1)) = pText (L.take k) ++ Utf8.encode (L[k] : Int) := by
        unfold pText
        rw [List.take_succ_eq_append_getElem hk, List.map_append]
        exact runesBytes_snoc _ _
      have hsz : (pText (L.take k)).size ≤ 4004 := by
        have := runesBytes_size_le ((L.take k).map Int.ofNat)
        rw [List.length_map, List.length_take] at this
        unfold pText
        omega
      obtain ⟨x, hx⟩ : ∃ x, L[k] = x := ⟨_, rfl⟩
      rw [hx] at ck hn hmore
      have hcv := conv_rune (x : Int)
      have hwr : IntKind.i32.wrap (x : Int) = (x : Int) := by rw [IntKind.wrap_i32]; omega
      have hen := encode_size_le (x : Int)
      generalize Utf8.encode (x : Int) = E at *
      generalize pText (L.take k) = T at *
      replace hmore := Lib.hid hmore
      have ha : ∀ W, (Op.stringOp .add T E).run Try.prog W = .ok (.string (T ++ E)) W := fun W => run_string_add_sum _ _ _ (by omega)
      clear hx
      go_wp2_with fail
      go_roundg (L.length - (k + 1))
      case measure => omega
      case rel => exact ⟨k + 1, by rw [hmore.out], by go_num, by omega, rfl⟩
    · obtain rfl : k = L.length := by omega
      rw [List.take_length]
      go_wp2_with fail
      go_ret
      exact ⟨rfl, rfl⟩
end Go.Proofs.Yteeodkmhelmedaa
