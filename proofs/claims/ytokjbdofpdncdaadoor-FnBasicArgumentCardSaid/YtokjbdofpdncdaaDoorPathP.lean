/- What a path of crates and nested parts is read as, where there may be a greatest length; how it is written. No memory, no program. -/
import Derived.Test.YtokjbdofpdncdaaDoorIdentCnt
namespace Go.Proofs.YtokjbdofpdncdaaDoor
open Go.RowKit Go.Lib
set_option linter.unusedVariables false

/-- Writing, where a length may be asked. -/
def St.putm (st : St) (l : List UInt8) : St :=
  if st.skip then st else if 0 < st.max ∧ st.max < (st.out.length : Int) then { st with skip := true } else { st with out := st.out ++ l }
/-- Writing, where none is asked. -/
def St.putd (st : St) (l : List UInt8) : St := if st.skip then st else { st with out := st.out ++ l }

/-- The same state before another text. -/
def St.on (s : St) (l : List UInt8) : St := { s with str := l }

def isLow (c : UInt8) : Bool := decide (97 ≤ c.toNat ∧ c.toNat ≤ 122)
def isUp (c : UInt8) : Bool := decide (65 ≤ c.toNat ∧ c.toNat ≤ 90)
def kindName (ns : UInt8) : List UInt8 :=
  if ns = 67 then [99, 108, 111, 115, 117, 114, 101] else if ns = 83 then [115, 104, 105, 109] else [ns]
def nameSt (st : St) (nm : List UInt8) : St := if nm = [] then st else (st.putm [58]).putm nm
/-- A part is told behind its path. -/
def nestSt (st : St) (ns : UInt8) (d : Int) (nm : List UInt8) : St :=
  if isUp ns then (nameSt ((st.putm [58, 58, 123]).putm (kindName ns)) nm).putd (35 :: (decDigits d.toNat ++ [125]))
  else (st.putm [58, 58]).putm nm

/-- A name in Punycode comes. -/
def uIn (l : List UInt8) : Bool := match disa l with
  | some (_, 117 :: _) => true
  | _ => false
theorem noUIn_of {l : List UInt8} (h : uIn l = false) : noUIn l := by
  intro d t hd x hx
  subst hx
  unfold uIn at h
  rw [hd] at h
  cases h
theorem uIn_of {l : List UInt8} (h : noUIn l) : uIn l = false := by
  unfold uIn
  split
  · rename_i d t hd
    exact absurd rfl (h d _ hd t)
  · rfl

/-- A path is read: 'none': nothing is said of it here; 'some none': it is refused. -/
def rpath : Nat → St → Option (Option St)
  | 0, _ => none
  | f + 1, st => match st.str with
    | [] => some none
    | c :: l =>
      if c = 67 then
        if uIn l then none else match identAll l with
          | none => some none
          | some (_, nm, r) => some (some ((st.on r).putm nm))
      else if c = 78 then
        match l with
        | [] => some none
        | ns :: l2 =>
          if isLow ns || isUp ns then
            match rpath f (st.on l2) with
            | none => none
            | some none => some none
            | some (some s1) =>
              if uIn s1.str then none else match identAll s1.str with
                | none => some none
                | some (d, nm, r) => if d < 0 ∨ (isUp ns = true ∧ (s1.skip = true ∨ s1.max ≠ 0)) then none else some (some (nestSt (s1.on r) ns d nm))
          else some none
      else if c = 77 ∨ c = 88 ∨ c = 89 ∨ c = 73 ∨ c = 66 then none
      else some none

section
theorem putm_str (st : St) (l : List UInt8) : (st.putm l).str = st.str := by unfold St.putm; split; · rfl
                                                                             split <;> rfl
theorem putm_max (st : St) (l : List UInt8) : (st.putm l).max = st.max := by unfold St.putm; split; · rfl
                                                                             split <;> rfl
theorem putd_str (st : St) (l : List UInt8) : (st.putd l).str = st.str := by unfold St.putd; split <;> rfl
theorem putd_max (st : St) (l : List UInt8) : (st.putd l).max = st.max := by unfold St.putd; split <;> rfl
theorem putm_out (st : St) (l : List UInt8) : (st.putm l).out.length ≤ st.out.length + l.length := by
  unfold St.putm
  split
  · omega
  · split
    · simp
    · simp
theorem putd_out (st : St) (l : List UInt8) : (st.putd l).out.length ≤ st.out.length + l.length := by
  unfold St.putd
  split
  · omega
  · simp
theorem nameSt_str (st : St) (nm : List UInt8) : (nameSt st nm).str = st.str := by unfold nameSt; split <;> simp [putm_str]
theorem nameSt_max (st : St) (nm : List UInt8) : (nameSt st nm).max = st.max := by unfold nameSt; split <;> simp [putm_max]
theorem nestSt_str (st : St) (ns : UInt8) (d : Int) (nm : List UInt8) : (nestSt st ns d nm).str = st.str := by
  unfold nestSt
  split <;> simp [putm_str, putd_str, nameSt_str]
theorem nestSt_max (st : St) (ns : UInt8) (d : Int) (nm : List UInt8) : (nestSt st ns d nm).max = st.max := by
  unfold nestSt
  split <;> simp [putm_max, putd_max, nameSt_max]
theorem kindName_len (ns : UInt8) : (kindName ns).length ≤ 7 := by
  unfold kindName
  split
  · simp
  · split <;> simp
theorem nameSt_out (st : St) (nm : List UInt8) : (nameSt st nm).out.length ≤ st.out.length + (nm.length + 1) := by
  unfold nameSt
  split
  · omega
  · have h1 := putm_out (st.putm [58]) nm
    have h2 := putm_out st [58]
    simp only [List.length_cons, List.length_nil] at h2
    omega
theorem nestSt_out (st : St) (ns : UInt8) (d : Int) (nm : List UInt8) (hd : d ≤ 9223372036854775807) : (nestSt st ns d nm).out.length ≤ st.out.length + (nm.length + 40) := by
  unfold nestSt
  split
  · refine Nat.le_trans (putd_out _ _) ?_
    have h1 := nameSt_out ((st.putm [58, 58, 123]).putm (kindName ns)) nm
    have h2 := putm_out (st.putm [58, 58, 123]) (kindName ns)
    have h3 := putm_out st [58, 58, 123]
    have h4 := kindName_len ns
    have h5 := decDigits_len 18 d.toNat (by omega)
    simp only [List.length_cons, List.length_nil, List.length_append] at h3 ⊢
    omega
  · have h1 := putm_out (st.putm [58, 58]) nm
    have h2 := putm_out st [58, 58]
    simp only [List.length_cons, List.length_nil] at h2
    omega
end

theorem takeId_len {v : Int} {l n r : List UInt8} (h : takeId v l = some (n, r)) : n.length + r.length ≤ l.length := by
  unfold takeId at h
  split at h
  · cases h
  · split at h
    · simp at h
      obtain ⟨rfl, rfl⟩ := h
      simp
      omega
    · cases h
theorem unUnder_len (l : List UInt8) : (unUnder l).length ≤ l.length := by
  cases l with
  | nil => simp [unUnder]
  | cons c l => simp only [unUnder]; split <;> simp
theorem decgo_len : ∀ (l : List UInt8) (x v : Int) (r : List UInt8), decgo x l = some (v, r) → r.length ≤ l.length := by
  intro l
  induction l with
  | nil => intro x v r h; simp [decgo] at h; rw [h.2]; simp
  | cons c l ih =>
    intro x v r h
    unfold decgo at h
    split at h
    · split at h
      · cases h
      · have := ih _ _ _ h
        simp only [List.length_cons]
        omega
    · simp at h
      rw [← h.2]
      simp
theorem dec_short {l : List UInt8} {v : Int} {r : List UInt8} (h : dec l = some (v, r)) (hv : v = 0 → True) : r.length ≤ l.length := by
  cases l with
  | nil => cases h
  | cons c l => exact decgo_len _ _ _ _ h
theorem ident_len {l n r : List UInt8} (h : ident l = some (n, r)) : n.length + r.length ≤ l.length := by
  unfold ident at h
  cases hd : dec l with
  | none => rw [hd] at h; cases h
  | some p =>
    obtain ⟨v, l1⟩ := p
    rw [hd] at h
    simp only at h
    have h1 := takeId_len h
    have h2 := unUnder_len l1
    have h3 := dec_short hd (fun _ => trivial)
    omega
theorem identAll_len {l : List UInt8} {d : Int} {n r : List UInt8} (h : identAll l = some (d, n, r)) : n.length + r.length ≤ l.length := by
  unfold identAll at h
  cases hd : disa l with
  | none => rw [hd] at h; cases h
  | some p =>
    obtain ⟨d', l1⟩ := p
    rw [hd] at h
    simp only at h
    cases hi : ident l1 with
    | none => rw [hi] at h; cases h
    | some q =>
      rw [hi] at h
      simp at h
      obtain ⟨rfl, rfl, rfl⟩ := h
      have h1 := ident_len hi
      have h2 := disa_length hd
      omega
theorem disa_hi {l : List UInt8} {d : Int} {t : List UInt8} (h : disa l = some (d, t)) : d ≤ 9223372036854775807 := by
  cases l with
  | nil => simp [disa] at h; rw [← h.1]; decide
  | cons c l =>
    replace h : (if c = 115 then (b62 l).map (fun p => (wrap64 (p.1 + 1), p.2)) else some (0, c :: l)) = some (d, t) := h
    split at h
    · cases hb : b62 l with
      | none => rw [hb] at h; cases h
      | some p =>
        rw [hb] at h
        simp at h
        rw [← h.1]
        unfold wrap64
        omega
    · simp at h
      rw [← h.1]
      decide
theorem identAll_hi {l : List UInt8} {d : Int} {n r : List UInt8} (h : identAll l = some (d, n, r)) : d ≤ 9223372036854775807 := by
  unfold identAll at h
  cases hd : disa l with
  | none => rw [hd] at h; cases h
  | some p =>
    obtain ⟨d', l1⟩ := p
    rw [hd] at h
    simp only at h
    cases hi : ident l1 with
    | none => rw [hi] at h; cases h
    | some q =>
      rw [hi] at h
      simp at h
      rw [← h.1]
      exact disa_hi hd

/-- How much is written at most. -/
theorem rpath_grows : ∀ (f : Nat) (st st' : St), rpath f st = some (some st') → st'.str.length ≤ st.str.length ∧ st'.out.length + 40 * st'.str.length ≤ st.out.length + 40 * st.str.length ∧ st'.max = st.max := by
  intro f
  induction f with
  | zero => intro st st' h; cases h
  | succ f ih =>
    intro st st' h
    unfold rpath at h
    split at h
    · cases h
    · rename_i c l hs
      rw [hs]
      by_cases h67 : c = 67
      · rw [if_pos h67] at h
        cases hu : uIn l with
        | true => rw [if_pos hu] at h; cases h
        | false =>
          rw [if_neg (by rw [hu]; simp)] at h
          cases hi : identAll l with
          | none => rw [hi] at h; cases h
          | some p =>
            obtain ⟨d, nm, r⟩ := p
            rw [hi] at h
            simp only [Option.some.injEq] at h
            subst h
            have h1 := identAll_len hi
            have h2 := putm_out (st.on r) nm
            refine ⟨?_, ?_, ?_⟩
            · rw [putm_str]; show r.length ≤ _; simp only [List.length_cons]; omega
            · rw [putm_str]; replace h2 : _ ≤ st.out.length + nm.length := h2; show _ + 40 * r.length ≤ _; simp only [List.length_cons]; omega
            · rw [putm_max]; rfl
      · rw [if_neg h67] at h
        by_cases h78 : c = 78
        · rw [if_pos h78] at h
          split at h
          · cases h
          · rename_i ns l2
            split at h
            · cases hr : rpath f (st.on l2) with
              | none => rw [hr] at h; cases h
              | some o =>
                rw [hr] at h
                cases o with
                | none => cases h
                | some s1 =>
                  simp only at h
                  obtain ⟨g1, g2, g3⟩ := ih _ _ hr
                  replace g1 : _ ≤ l2.length := g1
                  replace g2 : _ ≤ st.out.length + 40 * l2.length := g2
                  replace g3 : _ = st.max := g3
                  cases hu : uIn s1.str with
                  | true => rw [if_pos hu] at h; cases h
                  | false =>
                    rw [if_neg (by rw [hu]; simp)] at h
                    cases hi : identAll s1.str with
                    | none => rw [hi] at h; cases h
                    | some p =>
                      obtain ⟨d, nm, r⟩ := p
                      rw [hi] at h
                      simp only at h
                      split at h
                      · cases h
                      · simp only [Option.some.injEq] at h
                        subst h
                        have h1 := identAll_len hi
                        have h2 := nestSt_out (s1.on r) ns d nm (identAll_hi hi)
                        refine ⟨?_, ?_, ?_⟩
                        · rw [nestSt_str]; show r.length ≤ _; simp only [List.length_cons]; omega
                        · rw [nestSt_str]; replace h2 : _ ≤ s1.out.length + (nm.length + 40) := h2; show _ + 40 * r.length ≤ _; simp only [List.length_cons]; omega
                        · rw [nestSt_max]; exact g3
            · cases h
        · rw [if_neg h78] at h
          split at h <;> cases h

/-! How paths are written. -/
structure Part where
  space : UInt8
  name : List UInt8
  dis : Nat

/-- A name behind its number. -/
def writtenOf (l : List UInt8) : List UInt8 := if l = [] then [48, 95] else counted (between l) l
def ownOf (last : Bool) (p : Part) : List UInt8 := disOf p.dis ++ (if p.name = [] ∧ last = true then [48] else writtenOf p.name)
/-- The parts, the last one first. -/
def symR (crate : List UInt8) (cd : Nat) : Bool → List Part → List UInt8
  | _, [] => 67 :: (disOf cd ++ writtenOf crate)
  | last, p :: ps => 78 :: p.space :: (symR crate cd false ps ++ ownOf last p)

/-- What becomes of the state. -/
def stR (crate : List UInt8) (st : St) : List Part → St
  | [] => st.putm crate
  | p :: ps => nestSt (stR crate st ps) p.space (p.dis : Int) p.name

theorem putm_on (l : List UInt8) (s : St) (x : List UInt8) : (s.on l).putm x = (s.putm x).on l := by
  unfold St.putm St.on
  dsimp only
  split
  · rfl
  · split <;> rfl
theorem putd_on (l : List UInt8) (s : St) (x : List UInt8) : (s.on l).putd x = (s.putd x).on l := by
  unfold St.putd St.on
  dsimp only
  split <;> rfl
theorem nameSt_on (l : List UInt8) (s : St) (nm : List UInt8) : nameSt (s.on l) nm = (nameSt s nm).on l := by
  unfold nameSt
  split
  · rfl
  · rw [putm_on, putm_on]
theorem nestSt_on (l : List UInt8) (s : St) (ns : UInt8) (d : Int) (nm : List UInt8) : nestSt (s.on l) ns d nm = (nestSt s ns d nm).on l := by
  unfold nestSt
  split
  · rw [putm_on, putm_on, nameSt_on, putd_on]
  · rw [putm_on, putm_on]
theorem stR_on (crate : List UInt8) (st : St) (l : List UInt8) : ∀ ps, stR crate (st.on l) ps = (stR crate st ps).on l := by
  intro ps
  induction ps with
  | nil => exact putm_on _ _ _
  | cons p ps ih => rw [stR, stR, ih, nestSt_on]

theorem stR_max (crate : List UInt8) (st : St) : ∀ ps, (stR crate st ps).max = st.max := by
  intro ps
  induction ps with
  | nil => exact putm_max _ _
  | cons p ps ih => rw [stR, nestSt_max, ih]
theorem putm_keeps {s : St} (h : s.skip = false) (h0 : s.max = 0) (l : List UInt8) : s.putm l = { s with out := s.out ++ l } := by
  unfold St.putm
  rw [if_neg (by simp [h]), if_neg (by omega)]
theorem nameSt_keeps {s : St} (h : s.skip = false) (h0 : s.max = 0) (nm : List UInt8) : nameSt s nm = { s with out := s.out ++ (if nm = [] then [] else 58 :: nm) } := by
  unfold nameSt
  split
  · simp
  · rw [putm_keeps h h0, putm_keeps (s := { s with out := s.out ++ [58] }) h h0]
    simp
/-- What is told of a part. -/
def toldOf (ns : UInt8) (d : Int) (nm : List UInt8) : List UInt8 :=
  if isUp ns then [58, 58, 123] ++ (kindName ns ++ ((if nm = [] then [] else 58 :: nm) ++ (35 :: (decDigits d.toNat ++ [125])))) else [58, 58] ++ nm
theorem nestSt_keeps {s : St} (h : s.skip = false) (h0 : s.max = 0) (ns : UInt8) (d : Int) (nm : List UInt8) : nestSt s ns d nm = { s with out := s.out ++ toldOf ns d nm } := by
  unfold nestSt toldOf
  by_cases hu : isUp ns = true
  · rw [if_pos hu, if_pos hu, putm_keeps h h0]
    rw [putm_keeps (s := { s with out := s.out ++ [58, 58, 123] }) h h0]
    rw [nameSt_keeps (s := { s with out := s.out ++ [58, 58, 123] ++ kindName ns }) h h0]
    unfold St.putd
    simp [h]
  · rw [if_neg hu, if_neg hu, putm_keeps h h0]
    rw [putm_keeps (s := { s with out := s.out ++ [58, 58] }) h h0]
    simp
/-- The text of a path. -/
def textR (crate : List UInt8) : List Part → List UInt8
  | [] => crate
  | p :: ps => textR crate ps ++ toldOf p.space (p.dis : Int) p.name
theorem stR_keeps (crate : List UInt8) {st : St} (h : st.skip = false) (h0 : st.max = 0) : ∀ ps, stR crate st ps = { st with out := st.out ++ textR crate ps } := by
  intro ps
  induction ps with
  | nil => exact putm_keeps h h0 _
  | cons p ps ih =>
    rw [stR, ih, nestSt_keeps (s := { st with out := st.out ++ textR crate ps }) h h0]
    simp [textR]
theorem stR_skip (crate : List UInt8) (st : St) (ps : List Part) (h : st.skip = false) (h0 : st.max = 0) : (stR crate st ps).skip = false := by
  rw [stR_keeps crate h h0]
  exact h

/-- A name that is written is plain, and not too long. -/
def NameOk (l : List UInt8) : Prop := l.all plainB = true ∧ l.length ≤ 1000000
def PartOk (p : Part) : Prop := (isLow p.space || isUp p.space) = true ∧ NameOk p.name ∧ p.dis ≤ 4611686018427387904

theorem ident_blank (t : List UInt8) : ident (48 :: 95 :: t) = some ([], t) := by
  have e : dec (48 :: 95 :: t) = some (0, 95 :: t) := rfl
  unfold ident
  rw [e]
  show takeId 0 (unUnder (95 :: t)) = _
  have : unUnder (95 :: t) = t := rfl
  rw [this]
  unfold takeId
  rw [if_neg (by omega)]
  rfl

theorem own_read {last : Bool} {p : Part} (h : PartOk p) (t : List UInt8) (ht : p.name = [] ∧ last = true → ∀ c u, t = c :: u → isDig c = false ∧ c ≠ 95) :
    identAll (ownOf last p ++ t) = some ((p.dis : Int), p.name, t) ∧ uIn (ownOf last p ++ t) = false := by
  obtain ⟨_, ⟨hn, hl⟩, hd⟩ := h
  unfold ownOf
  rw [List.append_assoc]
  by_cases h0 : p.name = []
  · cases last with
    | true =>
      rw [if_pos ⟨h0, rfl⟩, h0]
      have n1 : ∀ u, ([48] ++ t) ≠ 115 :: u := fun u h => by cases h
      exact ⟨identAll_read hd n1 (ident_empty (ht ⟨h0, rfl⟩)), uIn_of (noUIn_read hd n1 (fun u h => by cases h))⟩
    | false =>
      rw [if_neg (by simp)]
      unfold writtenOf
      rw [if_pos h0, h0]
      have n1 : ∀ u, ([48, 95] ++ t) ≠ 115 :: u := fun u h => by cases h
      exact ⟨identAll_read hd n1 (ident_blank t), uIn_of (noUIn_read hd n1 (fun u h => by cases h))⟩
  · rw [if_neg (by simp [h0])]
    unfold writtenOf
    rw [if_neg h0]
    have := identAll_counted hd (between_ok p.name) h0 hn (by omega) t
    exact ⟨this.1, uIn_of this.2⟩

theorem crate_read {crate : List UInt8} {cd : Nat} (h0 : crate ≠ []) (h : NameOk crate) (hd : cd ≤ 4611686018427387904) (t : List UInt8) :
    identAll (disOf cd ++ writtenOf crate ++ t) = some ((cd : Int), crate, t) ∧ uIn (disOf cd ++ writtenOf crate ++ t) = false := by
  rw [List.append_assoc]
  unfold writtenOf
  rw [if_neg h0]
  have := identAll_counted hd (between_ok crate) h0 h.1 (by have := h.2; omega) t
  exact ⟨this.1, uIn_of this.2⟩

/-- A path that is written is read. -/
theorem rpath_read {crate : List UInt8} {cd : Nat} (h0 : crate ≠ []) (hc : NameOk crate) (hd : cd ≤ 4611686018427387904) :
    ∀ (ps : List Part) (last : Bool) (f : Nat) (st : St) (t : List UInt8), (∀ p ∈ ps, PartOk p) → ps.length < f → st.str = symR crate cd last ps ++ t →
      (∀ p, ps.head? = some p → p.name = [] ∧ last = true → ∀ c u, t = c :: u → isDig c = false ∧ c ≠ 95) →
      (∀ p ∈ ps, isUp p.space = true → st.skip = false ∧ st.max = 0) →
      rpath f st = some (some ((stR crate st ps).on t)) := by
  intro ps
  induction ps with
  | nil =>
    intro last f st t hp hf hs ht hup
    obtain ⟨f, rfl⟩ : ∃ g, f = g + 1 := ⟨f - 1, by simp at hf; omega⟩
    unfold rpath
    rw [hs]
    simp only [symR, List.cons_append]
    rw [if_pos trivial]
    obtain ⟨h1, h2⟩ := crate_read h0 hc hd t
    rw [if_neg (by rw [h2]; simp), h1]
    simp only
    exact congrArg (fun x => some (some x)) (stR_on crate st t [])
  | cons p ps ih =>
    intro last f st t hp hf hs ht hup
    obtain ⟨f, rfl⟩ : ∃ g, f = g + 1 := ⟨f - 1, by simp at hf; omega⟩
    have hpo := hp p (List.mem_cons_self ..)
    unfold rpath
    rw [hs]
    simp only [symR, List.cons_append]
    rw [if_neg (by decide), if_pos trivial, if_pos hpo.1]
    rw [ih false f (st.on (symR crate cd false ps ++ ownOf last p ++ t)) (ownOf last p ++ t) (fun q hq => hp q (List.mem_cons_of_mem _ hq)) (by simp at hf; omega) (by simp [St.on]) (fun q _ h => by cases h.2) (fun q hq h => hup q (List.mem_cons_of_mem _ hq) h)]
    simp only
    obtain ⟨h1, h2⟩ := own_read (last := last) hpo t (ht p rfl)
    rw [show ((stR crate (st.on (symR crate cd false ps ++ ownOf last p ++ t)) ps).on (ownOf last p ++ t)).str = ownOf last p ++ t from rfl]
    rw [if_neg (by rw [h2]; simp), h1]
    simp only
    rw [if_neg (by
      intro h
      rcases h with h | ⟨h, h2⟩
      · omega
      · obtain ⟨g1, g2⟩ := hup p (List.mem_cons_self ..) h
        have k1 : (stR crate (st.on (symR crate cd false ps ++ ownOf last p ++ t)) ps).max = 0 := by rw [stR_max]; exact g2
        have k2 : (stR crate (st.on (symR crate cd false ps ++ ownOf last p ++ t)) ps).skip = false := stR_skip _ _ _ g1 g2
        rcases h2 with h2 | h2
        · exact absurd (k2.symm.trans h2) (by simp)
        · exact h2 k1)]
    rw [stR_on]
    show some (some (nestSt ((stR crate st ps).on t) p.space (p.dis : Int) p.name)) = _
    rw [nestSt_on]
    rfl
end Go.Proofs.YtokjbdofpdncdaaDoor
