/- FnPunycodeMade: the walk. -/
import Derived.Test.YteeodkmhelmedaaPunyW3
namespace Go.Proofs.Yteeodkmhelmedaa
open Go.RowKit Go.Lib Go.Proofs.YteeodkmhelmedaaW.PrintWords
set_option linter.unusedVariables false
set_option maxRecDepth 100000
attribute [local go_sem] bs_size bs_toList

theorem made_in {L : List Nat} {D : List UInt8} (h : ∀ c ∈ D, c ≠ 95) : PunyIn (preT (basL L) ++ D) (basL L) D := by
  unfold preT
  split
  · rename_i hB
    rw [hB]
    exact .inr ⟨last_no D 95 h, rfl, rfl⟩
  · have e : basL L ++ [95] ++ D = basL L ++ 95 :: D := by simp
    rw [e]
    exact .inl ⟨last_at _ D 95 h, rfl, basL_ascii L⟩
theorem ints_read {w : World} {A : Option Addr} {n : Nat} {zs : List Int} (h : IntsAt w A n zs) (k : Nat) (hk : k ≤ n) (hn : n ≤ maxLen) : Kd.C (Kd.int .i64) w A (zs.take k).length (zs.take k) := by
  obtain ⟨rfl, hwf, h⟩ := h
  refine ⟨rfl, ?_, fun hpos => ?_⟩
  · unfold maxLen at hn
    simp
    omega
  · rcases h with h | ⟨b, off, rfl, hlt, hc⟩
    · rw [h] at hpos; simp at hpos
    · refine ⟨_, rfl, fun j p hj => ?_⟩
      have hjl : j < (zs.take k).length := by
        rcases Nat.lt_or_ge j (zs.take k).length with h | h
        · exact h
        · rw [List.getElem?_eq_none h] at hj; cases hj
      have hjz : j < zs.length := by simp at hjl; omega
      refine ⟨[.int .i64 p], rfl, rfl, fun i u hi => ?_⟩
      have hi0 : i = 0 := by
        cases i with
        | zero => rfl
        | succ i => simp at hi
      subst hi0
      show w.cell? ((⟨b, off, none⟩ : Addr).add (j * 1 + 0)) = some u
      rw [Nat.mul_one, Nat.add_zero, add_none, hc j hjz]
      rw [List.getElem?_eq_getElem hjl] at hj
      simp at hi hj
      rw [← hi, ← hj]
theorem characters_any {w : World} {A : Option Addr} {n c : Nat} {zs : List Int} (h : IntsAt w A n zs) (hn : n ≤ maxLen) (hc : n ≤ c) :
    ∃ L : List Nat, L.length ≤ 1001 ∧ (∀ c ∈ L, ChOk c) ∧ L ≠ [] ∧ ∀ W, Below w.heap.size w W → Calls Try.prog 11 #[.slice A (min n 1000) c] W fun e w' =>
      ∃ g cap, e = .returned (.slice (some ⟨g, 0, none⟩) L.length cap) ∧ ChRow w' g cap L ∧ Below W.heap.size W w' := by
  have hlen : (zs.take (min n 1000)).length = min n 1000 := by rw [List.length_take, h.1]; omega
  have hwf : ∀ z ∈ zs.take (min n 1000), -9223372036854775808 ≤ z ∧ z ≤ 9223372036854775807 := fun z hz => by
    have := h.2.1 z (List.mem_of_mem_take hz)
    simpa [Lit.wf, IntKind.min, IntKind.max, IntKind.signed, IntKind.bits] using this
  obtain ⟨L, h1, h2, h3, d, hd, _⟩ := chars_eq (zs.take (min n 1000)) hwf (by omega) (zs.take (min n 1000)).length 0 2000 [] false (by omega) (by omega) rfl (by simp) (fun h => by cases h)
  have hf : PFnPunycodeMade.spec_AnCharacters.f 2000 (zs.take (min n 1000)) = some (ints L) := h1
  have hne : L ≠ [] := by rintro rfl; cases hd
  refine ⟨L, h2, h3, hne, fun W hW => ?_⟩
  have hC := ints_read (h.below hW) (min n 1000) (by omega) hn
  have := PFnPunycodeMade.spec_AnCharacters.calls 2000 A c _ _ W hC (by omega) hf
  rw [hlen] at this
  refine this.mono fun e w' h => ?_
  obtain ⟨v, rfl, hR, hb⟩ := h
  obtain ⟨g, cap, rfl, hrow⟩ := chRow_of hR hne
  exact ⟨g, cap, rfl, hrow, hb⟩

set_option maxHeartbeats 2000000 in
theorem punyMade_walk (w : World) (A : Option Addr) (n c : Nat) (zs : List Int) (h : IntsAt w A n zs) (k : n ≤ maxLen ∧ n ≤ c) :
    Calls Try.prog 4 #[.slice A n c] w fun e w' => e = .returned (.bool true) ∧ Below w.heap.size w w' := by
  by_cases hz : 2147483647 < n
  · have hz' : decide ((2147483647 : Int) < (n : Int)) = true := decide_eq_true (by omega)
    clear hz
    go_enter Try.func4, Try.ntmps4
    go_wp2_with fail
    go_ret
    exact ⟨rfl, Below.refl _ _⟩
  have hz' : decide ((2147483647 : Int) < (n : Int)) = false := decide_eq_false (by omega)
  obtain ⟨L, hL, hok, hne, hch⟩ := characters_any h k.1 k.2
  have HCh := Lib.hid hch
  have HIP := Lib.hid (fun (W : World) (g cap : Nat) (hr : ChRow W g cap L) => idPunycode_any hr hL hok)
  have HAS := Lib.hid (fun (W : World) (g cap : Nat) (hr : ChRow W g cap L) => anString_any hr hL (fun c hc => (hok c hc).le))
  have HDP := Lib.hid (fun (W : World) (D : List UInt8) (h1 : Hid (pdec D.length D 128 0 72 (ltF 128 L) = some L)) (h2 : D.length ≤ 12012) (h3 : ∀ c ∈ D, c ≠ 95) =>
    doorPuny_yes (l := preT (basL L) ++ D) (out := L) (by
      have hb := basL_len L
      unfold preT
      split <;> simp <;> omega) (made_in h3) (by rw [basL_nat]; exact h1.out) W)
  have h1 : 0 ≤ min (n : Int) 1000 := by omega
  have h2 : min (n : Int) 1000 ≤ (c : Int) := by omega
  have e : (min (n : Int) 1000).toNat = min n 1000 := by omega
  clear h hch hok hz k
  go_enter Try.func4, Try.ntmps4
  go_wp2_with (first
    | (go_at_call 11; refine (HCh.out _ (Below.refl _ _)).mono ?_; rintro e w2 ⟨g, cap, rfl, hrow2, hb2⟩)
    | (go_at_call 12; refine (HIP.out _ _ _ hrow2).mono ?_; rintro e w3 ⟨D, rfl, hpd, hDl, hD95, hb3⟩; have hrow3 := hrow2.below hb3; replace hb3 := hb2.trans (hb3.mono hb2.size))
    | (go_at_call 13; refine (HAS.out _ _ _ hrow3).mono ?_; rintro e w4 ⟨rfl, rfl⟩)
    | (go_at_call 9; refine (HDP.out _ D hpd hDl hD95).mono ?_; rintro e w5 ⟨rfl, hb5⟩))
  go_ret
  exact ⟨rfl, hb3.trans (hb5.mono hb3.size)⟩
end Go.Proofs.Yteeodkmhelmedaa
