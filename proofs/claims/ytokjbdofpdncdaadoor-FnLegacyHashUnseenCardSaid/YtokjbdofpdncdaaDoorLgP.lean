/- Old-style names: what is told of what stands between the prefix and the hash. No memory, no program. -/
import Derived.Test.YtokjbdofpdncdaaDoorDecRead
namespace Go.Proofs.YtokjbdofpdncdaaDoor
open Go.RowKit Go.Lib
set_option linter.unusedVariables false

/-- What two letters between dollar signs stand for. -/
def lgCode (a b : UInt8) : Option UInt8 :=
  if a = 83 ∧ b = 80 then some 64 else if a = 66 ∧ b = 80 then some 42 else if a = 82 ∧ b = 70 then some 38 else if a = 76 ∧ b = 84 then some 60
  else if a = 71 ∧ b = 84 then some 62 else if a = 76 ∧ b = 80 then some 40 else if a = 82 ∧ b = 80 then some 41 else none
def hexLo (c : UInt8) : Option Nat :=
  if 48 ≤ c.toNat ∧ c.toNat ≤ 57 then some (c.toNat - 48) else if 97 ≤ c.toNat ∧ c.toNat ≤ 102 then some (c.toNat - 97 + 10) else none

/-- A name as it is written, and as it is told. -/
inductive EscTo : List UInt8 → List UInt8 → Prop
  | nil : EscTo [] []
  | chr {c : UInt8} {l t : List UInt8} : c ≠ 36 → c ≠ 46 → EscTo l t → EscTo (c :: l) (c :: t)
  | comma {l t : List UInt8} : EscTo l t → EscTo (36 :: 67 :: 36 :: l) (44 :: t)
  | hex {x y : UInt8} {a b : Nat} {l t : List UInt8} : hexLo x = some a → hexLo y = some b → a ≤ 7 → 32 ≤ a * 16 + b → EscTo l t → EscTo (36 :: 117 :: x :: y :: 36 :: l) (UInt8.ofNat (a * 16 + b) :: t)
  | code {x y c : UInt8} {l t : List UInt8} : lgCode x y = some c → EscTo l t → EscTo (36 :: x :: y :: 36 :: l) (c :: t)
  | dots {l t : List UInt8} : EscTo l t → EscTo (46 :: 46 :: l) (58 :: 58 :: t)

theorem EscTo.append {a t b u : List UInt8} (h : EscTo a t) (k : EscTo b u) : EscTo (a ++ b) (t ++ u) := by
  induction h with
  | nil => exact k
  | chr h1 h2 _ ih => exact .chr h1 h2 ih
  | comma _ ih => exact .comma ih
  | hex h1 h2 h3 h4 _ ih => exact .hex h1 h2 h3 h4 ih
  | code h1 _ ih => exact .code h1 ih
  | dots _ ih => exact .dots ih
theorem EscTo.word : ∀ {l : List UInt8}, (∀ c ∈ l, c ≠ 36 ∧ c ≠ 46) → EscTo l l
  | [], _ => .nil
  | c :: l, h => .chr (h c (by simp)).1 (h c (by simp)).2 (EscTo.word fun d hd => h d (by simp [hd]))
theorem EscTo.len {a t : List UInt8} (h : EscTo a t) : t.length ≤ a.length := by
  induction h with
  | nil => exact Nat.le_refl _
  | chr _ _ _ ih => simp; omega
  | comma _ ih => simp; omega
  | hex _ _ _ _ _ ih => simp; omega
  | code _ _ ih => simp; omega
  | dots _ ih => simp; omega
theorem EscTo.pos {a t : List UInt8} (h : EscTo a t) (ha : a ≠ []) : t ≠ [] := by
  cases h with
  | nil => exact absurd rfl ha
  | chr _ _ _ => simp
  | comma _ => simp
  | hex _ _ _ _ _ => simp
  | code _ _ => simp
  | dots _ => simp

/-- A name behind its number: what is read of it. -/
inductive NameTo : List UInt8 → List UInt8 → Prop
  | plain {c : UInt8} {l t : List UInt8} : isDig c = false → c ≠ 95 → EscTo (c :: l) t → NameTo (c :: l) t
  | under {c : UInt8} {l t : List UInt8} : c ≠ 95 → EscTo (c :: l) t → NameTo (95 :: c :: l) t
theorem NameTo.len {a t : List UInt8} (h : NameTo a t) : t.length ≤ a.length := by
  cases h with
  | plain _ _ h => exact h.len
  | under _ h => have := h.len; simp at this ⊢; omega
theorem NameTo.pos {a t : List UInt8} (h : NameTo a t) : t ≠ [] := by
  cases h with
  | plain _ _ h => exact h.pos (by simp)
  | under _ h => exact h.pos (by simp)

/-- The names behind their numbers. -/
def lgBody : List (List UInt8) → List UInt8
  | [] => []
  | w :: ws => decDigits w.length ++ (w ++ lgBody ws)
theorem lgBody_append (a b : List (List UInt8)) : lgBody (a ++ b) = lgBody a ++ lgBody b := by
  induction a with
  | nil => rfl
  | cons w a ih => simp [lgBody, ih]
def lgSep (out : List UInt8) : List UInt8 := if out = [] then [] else out ++ [58, 58]
/-- What is told behind what has been told. -/
def lgJoin : List UInt8 → List (List UInt8) → List UInt8
  | out, [] => out
  | out, t :: ts => lgJoin (lgSep out ++ t) ts
/-- Names with two colons between them. -/
def lgPath : List (List UInt8) → List UInt8
  | [] => []
  | [t] => t
  | t :: u :: ts => t ++ ([58, 58] ++ lgPath (u :: ts))
theorem lgJoin_path : ∀ (ts : List (List UInt8)) (out : List UInt8), out ≠ [] → (∀ t ∈ ts, t ≠ []) → lgJoin out ts = out ++ (ts.flatMap fun t => [58, 58] ++ t)
  | [], out, _, _ => by simp [lgJoin]
  | t :: ts, out, h, ht => by
    have h1 : lgSep out ++ t ≠ [] := by have := ht t (by simp); simp [this]
    rw [lgJoin, lgJoin_path ts _ h1 (fun u hu => ht u (by simp [hu]))]
    simp [lgSep, h]
theorem lgPath_flat : ∀ (t : List UInt8) (ts : List (List UInt8)), lgPath (t :: ts) = t ++ (ts.flatMap fun t => [58, 58] ++ t)
  | t, [] => by simp [lgPath]
  | t, u :: ts => by rw [lgPath, lgPath_flat u ts]; simp
theorem lgJoin_eq {ts : List (List UInt8)} (ht : ∀ t ∈ ts, t ≠ []) : lgJoin [] ts = lgPath ts := by
  cases ts with
  | nil => rfl
  | cons t ts =>
    rw [lgJoin, lgPath_flat, lgJoin_path ts _ (by have := ht t (by simp); simpa [lgSep] using this) (fun u hu => ht u (by simp [hu]))]
    simp [lgSep]

/-- Names, each with what is told of it. -/
inductive NamesTo : List (List UInt8) → List (List UInt8) → Prop
  | nil : NamesTo [] []
  | cons {w t : List UInt8} {ws ts : List (List UInt8)} : NameTo w t → w.length ≤ 1000000 → NamesTo ws ts → NamesTo (w :: ws) (t :: ts)
theorem NamesTo.pos {ws ts : List (List UInt8)} (h : NamesTo ws ts) : ∀ t ∈ ts, t ≠ [] := by
  induction h with
  | nil => simp
  | cons h _ _ ih =>
    intro t ht
    rcases List.mem_cons.1 ht with rfl | ht
    · exact h.pos
    · exact ih t ht
theorem NamesTo.append {a t b u : List (List UInt8)} (h : NamesTo a t) (k : NamesTo b u) : NamesTo (a ++ b) (t ++ u) := by
  induction h with
  | nil => exact k
  | cons h1 h2 _ ih => exact .cons h1 h2 ih

theorem lgBody_len {ws : List (List UInt8)} (h : ∀ w ∈ ws, w.length ≤ 1000000) : (lgBody ws).length ≤ 1000020 * ws.length := by
  induction ws with
  | nil => simp [lgBody]
  | cons w ws ih =>
    have h1 := h w (by simp)
    have h2 := ih fun v hv => h v (by simp [hv])
    have h3 := decDigits_len 18 w.length (by omega)
    simp only [lgBody, List.length_append, List.length_cons]
    omega
theorem lgBody_next (ws : List (List UInt8)) (k : Nat) (h : k < ws.length) : lgBody (ws.take (k + 1)) = lgBody (ws.take k) ++ (decDigits ws[k].length ++ ws[k]) := by
  rw [List.take_succ_eq_append_getElem h, lgBody_append]
  simp [lgBody]

/-- What stands behind the names: nothing, or a number that reaches beyond the end. -/
def LgTail (tl : List UInt8) : Bool → Prop
  | true => tl = []
  | false => ∃ c r, tl = c :: r ∧ isDig c = true ∧ (decgo 0 tl = none ∨ ∃ v d s, decgo 0 tl = some (v, d :: s) ∧ d ≠ 95 ∧ 0 ≤ v ∧ v ≤ 10000000000 ∧ ((d :: s).length : Int) < v)

theorem decgo_any (k : Nat) : ∀ t : List UInt8, decgo 0 (decDigits k ++ t) = none ∨ decgo 0 (decDigits k ++ t) = decgo k t := by
  induction k using Nat.strongRecOn with
  | ind k ih =>
    intro t
    by_cases h : k < 10
    · right
      exact decgo_digits (by omega) t
    · rw [decDigits_big h, List.append_assoc]
      rcases ih (k / 10) (by omega) ([UInt8.ofNat (48 + k % 10)] ++ t) with h1 | h1
      · exact .inl h1
      · rw [h1]
        show decgo ((k / 10 : Nat) : Int) (UInt8.ofNat (48 + k % 10) :: t) = none ∨ decgo ((k / 10 : Nat) : Int) (UInt8.ofNat (48 + k % 10) :: t) = _
        conv => lhs; rw [decgo, if_pos (digit_isDig (by omega)), digit_byte (by omega)]
        conv => rhs; rw [decgo, if_pos (digit_isDig (by omega)), digit_byte (by omega)]
        split
        · exact .inl rfl
        · right
          congr 1
          omega
theorem decgo_le : ∀ (l : List UInt8) (v : Int) (u : Int) (r : List UInt8), 0 ≤ v → v ≤ 10000000000 → decgo v l = some (u, r) → 0 ≤ u ∧ u ≤ 10000000000
  | [], v, u, r, h0, h1, h => by simp [decgo] at h; omega
  | c :: l, v, u, r, h0, h1, h => by
    rw [decgo] at h
    split at h
    · rename_i hd
      have hd' : 48 ≤ c.toNat ∧ c.toNat ≤ 57 := of_decide_eq_true hd
      split at h
      · cases h
      · exact decgo_le l _ u r (by omega) (by omega) h
    · simp at h; omega
theorem lgTail_longer {k : Nat} {d : UInt8} {s : List UInt8} (hd : isDig d = false) (h95 : d ≠ 95) (hk : (d :: s).length < k) : LgTail (decDigits k ++ d :: s) false := by
  have e : ∃ c r, decDigits k = c :: r := by
    cases h : decDigits k with
    | nil => exact absurd h (decDigits_pos k)
    | cons c r => exact ⟨c, r, rfl⟩
  obtain ⟨c, r, e⟩ := e
  refine ⟨c, r ++ d :: s, by rw [e]; rfl, decDigits_dig k c (by rw [e]; simp), ?_⟩
  rcases decgo_any k (d :: s) with h | h
  · exact .inl h
  · right
    rw [decgo_off hd] at h
    have := decgo_le _ 0 _ _ (by omega) (by omega) h
    exact ⟨k, d, s, h, h95, this.1, this.2, by omega⟩
end Go.Proofs.YtokjbdofpdncdaaDoor
