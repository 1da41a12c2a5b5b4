/- Written paths are read as what they say. No memory. -/
import Derived.Test.YtoefegbbnaonoaaGreatDoorTold
import Derived.Test.YtoefegbbnaonoaaGreatDoorCounted
namespace Go.Proofs.YtoefegbbnaonoaaGreatDoor
open Go.RowKit Go.Lib
set_option linter.unusedVariables false

theorem b62of_plainB (n : Nat) : ∀ c ∈ b62of n, plainB c = true := by
  have hd : ∀ k, k < 62 → plainB (dig k) = true := by decide +kernel
  have key : ∀ (n : Nat) (acc : List UInt8), (∀ c ∈ acc, plainB c = true) → ∀ c ∈ digsAcc n acc, plainB c = true := by
    intro n
    induction n using Nat.strongRecOn with
    | _ n ih =>
      intro acc ha
      by_cases h : n = 0
      · subst h; rw [digsAcc_zero]; exact ha
      · rw [digsAcc_pos h]
        refine ih _ (by omega) _ ?_
        intro c hc
        rcases List.mem_cons.1 hc with rfl | hc
        · exact hd _ (by omega)
        · exact ha c hc
  unfold b62of
  split
  · decide
  · refine key _ _ ?_
    intro c hc
    rcases List.mem_cons.1 hc with rfl | hc
    · exact hd _ (by omega)
    · rcases List.mem_cons.1 hc with rfl | hc
      · decide
      · cases hc
theorem disOf_plain (n : Nat) : ∀ c ∈ disOf n, plainB c = true := by
  unfold disOf
  split
  · intro c hc; cases hc
  · intro c hc
    rcases List.mem_cons.1 hc with rfl | hc
    · decide
    · exact b62of_plainB _ c hc
theorem dig_plain {c : UInt8} (h : isDig c = true) : plainB c = true := decide_eq_true (.inl (of_decide_eq_true h))
theorem writtenOf_plain {l : List UInt8} (h : l.all plainB = true) : ∀ c ∈ writtenOf l, plainB c = true := by
  unfold writtenOf
  split
  · decide
  · unfold counted
    intro c hc
    rcases List.mem_append.1 hc with hc | hc
    · exact dig_plain (decDigits_dig _ c hc)
    · rcases List.mem_append.1 hc with hc | hc
      · unfold between at hc
        split at hc
        · cases hc
        · split at hc
          · rw [List.mem_singleton.1 hc]; decide
          · cases hc
      · exact List.all_eq_true.1 h c hc
theorem ownOf_plain {p : Part} (h : p.name.all plainB = true) (last : Bool) : ∀ c ∈ ownOf last p, plainB c = true := by
  unfold ownOf
  intro c hc
  rcases List.mem_append.1 hc with hc | hc
  · exact disOf_plain _ c hc
  · split at hc
    · rw [List.mem_singleton.1 hc]; decide
    · exact writtenOf_plain h c hc
theorem space_plain {p : Part} (h : PartOk p) : plainB p.space = true := by
  have := h.1
  rw [Bool.or_eq_true] at this
  rcases this with h | h
  · have : 97 ≤ p.space.toNat ∧ p.space.toNat ≤ 122 := of_decide_eq_true h
    exact decide_eq_true (by omega)
  · have : 65 ≤ p.space.toNat ∧ p.space.toNat ≤ 90 := of_decide_eq_true h
    exact decide_eq_true (by omega)
theorem symR_plain {crate : List UInt8} {cd : Nat} (hc : NameOk crate) : ∀ (ps : List Part) (last : Bool), (∀ p ∈ ps, PartOk p) → ∀ c ∈ symR crate cd last ps, plainB c = true := by
  intro ps
  induction ps with
  | nil =>
    intro last _ c h
    rcases List.mem_cons.1 h with rfl | h
    · decide
    · rcases List.mem_append.1 h with h | h
      · exact disOf_plain _ c h
      · exact writtenOf_plain hc.1 c h
  | cons p ps ih =>
    intro last hp c h
    have hpo := hp p (List.mem_cons_self ..)
    rcases List.mem_cons.1 h with rfl | h
    · decide
    · rcases List.mem_cons.1 h with rfl | h
      · exact space_plain hpo
      · rcases List.mem_append.1 h with h | h
        · exact ih false (fun q hq => hp q (List.mem_cons_of_mem _ hq)) c h
        · exact ownOf_plain hpo.2.1.1 last c h
theorem symR_head (crate : List UInt8) (cd : Nat) (last : Bool) (ps : List Part) : ∃ c t, symR crate cd last ps = c :: t ∧ isDig c = false := by
  cases ps with
  | nil => exact ⟨67, _, rfl, by decide⟩
  | cons p ps => exact ⟨78, _, rfl, by decide⟩

theorem formOf {l : List UInt8} (h : ∀ c ∈ l, plainB c = true) (hl : l.length ≤ 9000000000) : NameForm (95 :: 82 :: l) := by
  have hp : ∀ c : UInt8, plainB c = true → c ≠ 46 := fun c hc e => by subst e; exact absurd hc (by decide)
  refine ⟨⟨?_, by simp⟩, dotAt_none ?_, by simp; omega⟩
  · simp [Lib.hasPrefix]
  · intro c hc
    rcases List.mem_cons.1 hc with rfl | hc
    · decide
    · rcases List.mem_cons.1 hc with rfl | hc
      · decide
      · exact hp c (h c hc)

theorem symR_size {crate : List UInt8} {cd : Nat} (hc : NameOk crate) (hd : cd ≤ 4611686018427387904) : ∀ (ps : List Part) (last : Bool), (∀ p ∈ ps, PartOk p) → (symR crate cd last ps).length ≤ 1000200 * (ps.length + 1) := by
  have wl : ∀ l : List UInt8, l.length ≤ 1000000 → (writtenOf l).length ≤ 1000020 := by
    intro l h
    unfold writtenOf
    split
    · simp
    · unfold counted
      have h1 := decDigits_len 9 l.length (by omega)
      have h2 : (between l).length ≤ 1 := by
        unfold between
        split
        · simp
        · split <;> simp
      rw [List.length_append, List.length_append]
      omega
  intro ps
  induction ps with
  | nil =>
    intro last h
    have h1 := disOf_length cd (by omega)
    have h2 := wl _ hc.2
    simp only [symR, List.length_cons, List.length_append, List.length_nil]
    omega
  | cons p ps ih =>
    intro last h
    have := ih false (fun q hq => h q (List.mem_cons_of_mem _ hq))
    obtain ⟨_, h3, h4⟩ := h p (List.mem_cons_self ..)
    have h1 := disOf_length p.dis (by omega)
    have h2 := wl _ h3.2
    have h5 : (ownOf last p).length ≤ 1000041 := by
      unfold ownOf
      rw [List.length_append]
      split
      · simp; omega
      · omega
    simp only [symR, List.length_cons, List.length_append]
    omega

/-- A written path says its text. -/
theorem rsym_read {crate : List UInt8} {cd : Nat} (h0 : crate ≠ []) (hc : NameOk crate) (hd : cd ≤ 4611686018427387904) (ps : List Part) (hp : ∀ p ∈ ps, PartOk p) (st : St) (hup : ∀ p ∈ ps, isUp p.space = true → st.skip = false ∧ st.max = 0) (hs : st.str = symR crate cd true ps) :
    rsym (ps.length + 1) st = some (some ((stR crate st ps).on [])) := by
  have hr := rpath_read h0 hc hd ps true (ps.length + 1) st [] hp (by omega) (by rw [hs]; simp) (fun _ _ _ c u h => by cases h) hup
  obtain ⟨c, t, e, hdg⟩ := symR_head crate cd true ps
  unfold rsym
  rw [hs, e]
  simp only
  rw [if_neg (by rw [hdg]; simp), hr]
  exact if_pos rfl
theorem names_say {crate : List UInt8} {cd : Nat} (h0 : crate ≠ []) (hc : NameOk crate) (hd : cd ≤ 4611686018427387904) (ps : List Part) (hp : ∀ p ∈ ps, PartOk p) (hn : ps.length ≤ 1000) :
    NameSays (95 :: 82 :: symR crate cd true ps) (textR crate ps) := by
  have hl := symR_size hc hd ps true hp
  refine ⟨formOf (symR_plain hc ps true hp) (by omega), ps.length + 1, _, rsym_read h0 hc hd ps hp { orig := bs (symR crate cd true ps), str := symR crate cd true ps } (fun _ _ _ => ⟨rfl, rfl⟩) rfl, rfl, ?_⟩
  rw [stR_keeps crate (st := { orig := bs (symR crate cd true ps), str := symR crate cd true ps }) rfl rfl]
  show [] ++ textR crate ps = textR crate ps
  rfl
end Go.Proofs.YtoefegbbnaonoaaGreatDoor
