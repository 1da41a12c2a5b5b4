/- The reader's path, where it is of crates and nested parts: whatever it reads. -/
import Derived.Test.YtokjbdofpdncdaaDoorPath2
namespace Go.Proofs.YtokjbdofpdncdaaDoor
open Go.RowKit Go.Lib
set_option linter.unusedVariables false
set_option maxRecDepth 100000

theorem nestSt_low {s : St} {ns : UInt8} (h : isUp ns = false) (d : Int) (nm : List UInt8) : nestSt s ns d nm = (s.putm [58, 58]).putm nm := by
  unfold nestSt
  rw [if_neg (by rw [h]; simp)]
theorem nestSt_up {s : St} {ns : UInt8} (h : isUp ns = true) (d : Nat) (nm : List UInt8) : nestSt s ns (d : Int) nm = (nameSt ((s.putm [58, 58, 123]).putm (kindName ns)) nm).putd (35 :: (decDigits d ++ [125])) := by
  unfold nestSt
  rw [if_pos h, Int.toNat_natCast]

theorem path_any : ∀ (f : Nat) {w : World} {b : Nat} {st : St} {r : Option St} (sep : Bool), RstO w b st → rpath f st = some r → st.str.length ≤ 1000000000000 → 0 ≤ st.max → st.out.length + 40 * st.str.length ≤ 1000000000000 → Pow w b →
    Calls Tryd.prog 122 #[.pointer (some ⟨b, 0, none⟩), .bool sep] w (PathEnd b w r) := by
  intro f
  induction f with
  | zero => intro w b st r sep h hr; cases hr
  | succ f ih =>
    intro w b st r sep h hr hl hm ho hP
    unfold rpath at hr
    split at hr
    · rename_i hs
      simp only [Option.some.injEq] at hr
      subst hr
      exact path_nil h hs
    · rename_i c l hs
      by_cases h67 : c = 67
      · rw [if_pos h67] at hr
        subst h67
        cases hu : uIn l with
        | true => rw [if_pos hu] at hr; cases hr
        | false =>
          rw [if_neg (by rw [hu]; simp)] at hr
          have hc := path_crate (sep := sep) h hs hl hm ho hu
          cases hi : identAll l with
          | none =>
            rw [hi] at hr hc
            simp only [Option.some.injEq] at hr
            subst hr
            exact hc
          | some p =>
            obtain ⟨d, nm, rr⟩ := p
            rw [hi] at hr hc
            simp only [Option.some.injEq] at hr
            subst hr
            exact hc
      · rw [if_neg h67] at hr
        by_cases h78 : c = 78
        · rw [if_pos h78] at hr
          subst h78
          cases l with
          | nil =>
            simp only [Option.some.injEq] at hr
            subst hr
            exact nest_none h hs
          | cons ns l2 =>
            simp only at hr
            by_cases hlet : (isLow ns || isUp ns) = true
            · rw [if_pos hlet] at hr
              have hlet2 : (97 ≤ (ns.toNat : Int) ∧ (ns.toNat : Int) ≤ 122) ∨ (¬ 97 ≤ (ns.toNat : Int) ∧ 65 ≤ (ns.toNat : Int) ∧ (ns.toNat : Int) ≤ 90) := by
                rw [Bool.or_eq_true] at hlet
                rcases hlet with h1 | h1
                · have : 97 ≤ ns.toNat ∧ ns.toNat ≤ 122 := of_decide_eq_true h1
                  omega
                · have : 65 ≤ ns.toNat ∧ ns.toNat ≤ 90 := of_decide_eq_true h1
                  omega
              have hll : l2.length + 2 = st.str.length := by rw [hs]; simp
              cases hrec : rpath f (st.on l2) with
              | none => rw [hrec] at hr; cases hr
              | some o =>
                rw [hrec] at hr
                have IH : ∀ W, RstO W b (st.on l2) → Below b w W → Calls Tryd.prog 122 #[.pointer (some ⟨b, 0, none⟩), .bool sep] W (PathEnd b W o) := fun W hW hB =>
                  ih sep hW hrec (by show l2.length ≤ _; omega) hm (by show st.out.length + 40 * l2.length ≤ _; omega) (hP.keep hB (Nat.le_refl _))
                cases o with
                | none =>
                  simp only [Option.some.injEq] at hr
                  subst hr
                  exact nest_fell h hs hl hlet2 IH
                | some s1 =>
                  simp only at hr
                  obtain ⟨g1, g2, g3⟩ := rpath_grows _ _ _ hrec
                  replace g1 : _ ≤ l2.length := g1
                  replace g2 : _ ≤ st.out.length + 40 * l2.length := g2
                  replace g3 : _ = st.max := g3
                  cases hu : uIn s1.str with
                  | true => rw [if_pos hu] at hr; cases hr
                  | false =>
                    rw [if_neg (by rw [hu]; simp)] at hr
                    cases hi : identAll s1.str with
                    | none =>
                      rw [hi] at hr
                      simp only [Option.some.injEq] at hr
                      subst hr
                      exact nest_noname h hs hl hlet2 IH hu (by omega) hi
                    | some p =>
                      obtain ⟨d, nm, rr⟩ := p
                      rw [hi] at hr
                      simp only at hr
                      split at hr
                      · cases hr
                      · rename_i hdn
                        simp only [Option.some.injEq] at hr
                        subst hr
                        have hd0 : 0 ≤ d := by
                          by_cases h1 : d < 0
                          · exact absurd (.inl h1) hdn
                          · omega
                        obtain ⟨m, rfl⟩ : ∃ m : Nat, d = (m : Int) := ⟨d.toNat, by omega⟩
                        cases hup : isUp ns with
                        | false =>
                          rw [nestSt_low hup]
                          have hlow : 97 ≤ ns.toNat ∧ ns.toNat ≤ 122 := by
                            rw [hup, Bool.or_false] at hlet
                            exact of_decide_eq_true hlet
                          exact nest_low h hs hl (by omega) (by omega) IH hu (by omega) hi (by omega) (by omega)
                        | true =>
                          rw [nestSt_up hup]
                          have hup2 : 65 ≤ ns.toNat ∧ ns.toNat ≤ 90 := of_decide_eq_true hup
                          have hsk : s1.skip = false := by
                            cases hx : s1.skip with
                            | false => rfl
                            | true => exact absurd (.inr ⟨hup, .inl hx⟩) hdn
                          have hmx : s1.max = 0 := by
                            by_cases hx : s1.max = 0
                            · exact hx
                            · exact absurd (.inr ⟨hup, .inr hx⟩) hdn
                          have hmd : m ≤ 9223372036854775807 := by have := identAll_hi hi; omega
                          unfold kindName nameSt
                          by_cases hn : nm = []
                          · rw [if_pos hn]
                            by_cases k1 : ns = 67
                            · rw [if_pos k1]
                              exact nest_upC0 h hs hl k1 hn (by omega) (by omega) hP IH hu (by omega) hi hmd hsk hmx (by omega)
                            · rw [if_neg k1]
                              by_cases k2 : ns = 83
                              · rw [if_pos k2]
                                exact nest_upS0 h hs hl k2 hn (by omega) (by omega) hP IH hu (by omega) hi hmd hsk hmx (by omega)
                              · rw [if_neg k2]
                                exact nest_upO0 h hs hl ⟨k1, k2⟩ hn (by omega) (by omega) hP IH hu (by omega) hi hmd hsk hmx (by omega)
                          · rw [if_neg hn]
                            by_cases k1 : ns = 67
                            · rw [if_pos k1]
                              exact nest_upC1 h hs hl k1 hn (by omega) (by omega) hP IH hu (by omega) hi hmd hsk hmx (by omega)
                            · rw [if_neg k1]
                              by_cases k2 : ns = 83
                              · rw [if_pos k2]
                                exact nest_upS1 h hs hl k2 hn (by omega) (by omega) hP IH hu (by omega) hi hmd hsk hmx (by omega)
                              · rw [if_neg k2]
                                exact nest_upO1 h hs hl ⟨k1, k2⟩ hn (by omega) (by omega) hP IH hu (by omega) hi hmd hsk hmx (by omega)
            · rw [if_neg hlet] at hr
              simp only [Option.some.injEq] at hr
              subst hr
              rw [Bool.or_eq_true] at hlet
              exact nest_bad h hs hl (by simpa using fun h1 => hlet (.inl h1)) (by simpa using fun h1 => hlet (.inr h1))
        · rw [if_neg h78] at hr
          by_cases ho2 : c = 77 ∨ c = 88 ∨ c = 89 ∨ c = 73 ∨ c = 66
          · rw [if_pos ho2] at hr; cases hr
          · rw [if_neg ho2] at hr
            simp only [Option.some.injEq] at hr
            subst hr
            exact path_other h hs h67 h78 ho2
end Go.Proofs.YtokjbdofpdncdaaDoor
