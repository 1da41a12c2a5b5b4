/- The reader's disambiguator and identifier; the door to identifiers. -/
import Derived.Test.YtokjbdofpdncdaaDoorIdent
namespace Go.Proofs.YtokjbdofpdncdaaDoor
open Go.RowKit
set_option linter.unusedVariables false
set_option maxRecDepth 100000
attribute [local go_sem] bs_size bs_get0

set_option maxHeartbeats 1000000 in
theorem disa_any {w : World} {b : Nat} {st : St} (h : Rst w b st) (hl : st.str.length ≤ 9223372036854775807) :
    Calls Tryd.prog 139 #[.pointer (some ⟨b, 0, none⟩)] w (ReadInt b w st (disa st.str)) := by
  obtain ⟨orig, str, off, out, skip, life, noGen, max⟩ := st
  simp only at hl
  have c1 := h.str
  simp only at c1
  have H := Lib.hid h
  by_cases hs : ∃ l, str = 115 :: l
  · obtain ⟨l, rfl⟩ := hs
    have cb : ((115 : UInt8).toNat : Int) = 115 := rfl
    have hlen : l.length ≤ 9223372036854775807 := by simp only [List.length_cons] at hl; omega
    show Calls _ _ _ _ (ReadInt b w _ ((b62 l).map fun p => (wrap64 (p.1 + 1), p.2)))
    obtain ⟨r, hr⟩ : ∃ r, b62 l = r := ⟨_, rfl⟩
    rw [hr]
    replace hr := Lib.hid hr
    clear h
    have HA := Lib.hid (advance_one H.out rfl hl)
    go_enter Tryd.func139, Tryd.ntmps139
    go_wp2_with (go_at_call 81; refine (HA.out).mono ?_; rintro e w1 ⟨rfl, ⟨o1, h1⟩, hb1⟩)
    have hcall := base62_any h1 hlen
    simp only at hcall
    rw [hr.out] at hcall
    have HC := Lib.hid hcall
    clear hcall h1
    cases r with
    | none =>
      go_wp2_with (go_at_call 115; refine (HC.out).mono ?_; rintro e w2 ⟨⟨_, _, rfl⟩, hb2⟩)
      exact ⟨rfl, ⟨_, _, rfl⟩, hb1.trans hb2⟩
    | some p =>
      obtain ⟨n, t⟩ := p
      go_wp2_with (go_at_call 115; refine (HC.out).mono ?_; rintro e w2 ⟨rfl, ⟨o2, h2⟩, hb2⟩)
      go_ret
      exact ⟨rfl, ⟨_, h2⟩, hb1.trans hb2⟩
  · have hd : disa str = some (0, str) := by
      cases str with
      | nil => rfl
      | cons c l =>
        have : c ≠ 115 := fun e => hs ⟨l, by rw [e]⟩
        simp [disa, this]
    show Calls _ _ _ _ (ReadInt b w _ (disa str))
    rw [hd]
    clear hd h
    have hh : str = [] ∨ ∃ c l, str = c :: l ∧ c ≠ 115 := by
      cases str with
      | nil => exact .inl rfl
      | cons c l => exact .inr ⟨c, l, rfl, fun e => hs ⟨l, by rw [e]⟩⟩
    clear hs
    rcases hh with rfl | ⟨c, l, rfl, hc⟩
    all_goals
      try have hcn : c.toNat ≠ 115 := fun e => hc (UInt8.toNat_inj.1 e)
      try have hcb : ((c.toNat : Int) != 115) = true := by simp; omega
      try clear hc
      try clear hcn
      try have hz : ((l.length : Int) + 1 == 0) = false := by simp; omega
      go_enter Tryd.func139, Tryd.ntmps139
      go_wp2
      go_ret
      exact ⟨rfl, ⟨_, H.out⟩, Keep.refl _ _⟩

/-- A disambiguator and a name. -/
def identAll (l : List UInt8) : Option (Int × List UInt8 × List UInt8) :=
  match disa l with
  | none => none
  | some (d, l1) => (ident l1).map fun p => (d, p.1, p.2)

def ReadIdent (b : Nat) (w : World) (st : St) (r : Option (Int × List UInt8 × List UInt8)) (e : Ending) (w' : World) : Prop :=
  match r with
  | some (d, n, l) => Done b w (.tuple #[.int .i64 d, .string (bs n)]) { st with str := l } e w'
  | none => Fell b w e w'

theorem disa_length {l t : List UInt8} {d : Int} (h : disa l = some (d, t)) : t.length ≤ l.length := by
  cases l with
  | nil => simp [disa] at h; obtain ⟨_, rfl⟩ := h; simp
  | cons c l =>
    replace h : (if c = 115 then (b62 l).map (fun p => (wrap64 (p.1 + 1), p.2)) else some (0, c :: l)) = some (d, t) := h
    by_cases hc : c = 115
    · rw [if_pos hc] at h
      cases hb : b62 l with
      | none => rw [hb] at h; cases h
      | some p =>
        rw [hb] at h
        obtain ⟨n, r⟩ := p
        simp at h
        obtain ⟨_, rfl⟩ := h
        have := b62_length hb
        simp
        omega
    · rw [if_neg hc] at h
      simp at h
      obtain ⟨_, rfl⟩ := h
      simp

/-- What stands behind the disambiguator does not begin with u. -/
def noUIn (l : List UInt8) : Prop := ∀ d t, disa l = some (d, t) → noU t

set_option maxHeartbeats 1000000 in
theorem identifier_any {w : World} {b : Nat} {st : St} (h : Rst w b st) (hu : noUIn st.str) (hl : st.str.length ≤ 9223372036854775807) :
    Calls Tryd.prog 131 #[.pointer (some ⟨b, 0, none⟩)] w (ReadIdent b w st (identAll st.str)) := by
  obtain ⟨orig, str, off, out, skip, life, noGen, max⟩ := st
  simp only at hl hu
  have hcall := disa_any h hl
  show Calls _ _ _ _ (ReadIdent b w _ (identAll str))
  simp only at hcall
  unfold identAll
  cases hd : disa str with
  | none =>
    rw [hd] at hcall
    have HC := Lib.hid hcall
    clear hcall h hd hu
    go_enter Tryd.func131, Tryd.ntmps131
    go_wp2_with (go_at_call 139; refine (HC.out).mono ?_; rintro e w2 ⟨⟨_, _, rfl⟩, hb2⟩)
    exact ⟨rfl, ⟨_, _, rfl⟩, hb2⟩
  | some p =>
    obtain ⟨d, t⟩ := p
    rw [hd] at hcall
    have hlen : t.length ≤ 9223372036854775807 := Nat.le_trans (disa_length hd) hl
    have hu' := Lib.hid (hu d t hd)
    simp only
    obtain ⟨r, hr⟩ : ∃ r, ident t = r := ⟨_, rfl⟩
    rw [hr]
    replace hr := Lib.hid hr
    have HC := Lib.hid hcall
    clear hcall h hd hu
    go_enter Tryd.func131, Tryd.ntmps131
    go_wp2_with (go_at_call 139; refine (HC.out).mono ?_; rintro e w2 ⟨rfl, ⟨o2, h2⟩, hb2⟩)
    have hc2 := undis_any h2 hu'.out hlen
    simp only at hc2
    rw [hr.out] at hc2
    have HC2 := Lib.hid hc2
    clear hc2 h2
    cases r with
    | none =>
      go_wp2_with (go_at_call 140; refine (HC2.out).mono ?_; rintro e w3 ⟨⟨_, _, rfl⟩, hb3⟩)
      exact ⟨rfl, ⟨_, _, rfl⟩, hb2.trans hb3⟩
    | some p =>
      obtain ⟨n, l⟩ := p
      go_wp2_with (go_at_call 140; refine (HC2.out).mono ?_; rintro e w3 ⟨rfl, ⟨o3, h3⟩, hb3⟩)
      go_ret2
      exact ⟨rfl, ⟨_, h3⟩, hb2.trans hb3⟩
end Go.Proofs.YtokjbdofpdncdaaDoor
