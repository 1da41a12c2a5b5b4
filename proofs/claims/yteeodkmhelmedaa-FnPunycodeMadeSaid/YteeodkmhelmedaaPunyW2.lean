/- The writer of Punycode: the walk. -/
import Derived.Test.YteeodkmhelmedaaPunyW
namespace Go.Proofs.Yteeodkmhelmedaa
open Go.RowKit Go.Lib Go.Proofs.YteeodkmhelmedaaW.PrintWords
set_option linter.unusedVariables false
set_option maxRecDepth 100000
attribute [local go_sem] bs_size bs_toList

/-! Which characters are there already. -/
def ltF (now : Nat) (l : List Nat) : List Nat := l.filter fun c => decide (c < now)
def leF (now : Nat) (l : List Nat) : List Nat := l.filter fun c => decide (c ≤ now)
def outP (L : List Nat) (now p : Nat) : List Nat := leF now (L.take p) ++ ltF now (L.drop p)
def qP (L : List Nat) (now p : Nat) : Nat := (leF now (L.take p)).length
theorem outP_zero (L : List Nat) (now : Nat) : outP L now 0 = ltF now L ∧ qP L now 0 = 0 := by unfold outP qP leF; simp
theorem outP_end (L : List Nat) (now : Nat) : outP L now L.length = ltF (now + 1) L ∧ qP L now L.length = (outP L now L.length).length := by
  unfold outP qP leF ltF
  simp only [List.take_length, List.drop_length, List.filter_nil, List.append_nil]
  exact ⟨List.filter_congr fun c _ => decide_eq_decide.2 (by omega), trivial⟩
theorem outP_len (L : List Nat) (now p : Nat) (hp : p ≤ L.length) : (outP L now p).length ≤ L.length ∧ qP L now p ≤ (outP L now p).length := by
  unfold outP qP leF ltF
  have h1 := List.length_filter_le (fun c => decide (c ≤ now)) (L.take p)
  have h2 := List.length_filter_le (fun c => decide (c < now)) (L.drop p)
  simp only [List.length_append, List.length_take, List.length_drop] at h1 h2 ⊢
  omega
theorem outP_lt {L : List Nat} {now p : Nat} (hp : p < L.length) (h : L[p] < now) : outP L now (p + 1) = outP L now p ∧ qP L now (p + 1) = qP L now p + 1 := by
  unfold outP qP leF ltF
  rw [List.take_succ_eq_append_getElem hp, List.drop_eq_getElem_cons hp]
  have h1 : L[p] ≤ now := by omega
  generalize L[p] = c at *
  generalize L.take p = X
  generalize L.drop (p + 1) = Y
  simp [h, h1]
theorem outP_gt {L : List Nat} {now p : Nat} (hp : p < L.length) (h : now < L[p]) : outP L now (p + 1) = outP L now p ∧ qP L now (p + 1) = qP L now p := by
  unfold outP qP leF ltF
  rw [List.take_succ_eq_append_getElem hp, List.drop_eq_getElem_cons hp]
  have h1 : ¬ L[p] ≤ now := by omega
  have h2 : ¬ L[p] < now := by omega
  generalize L[p] = c at *
  generalize L.take p = X
  generalize L.drop (p + 1) = Y
  simp [h1, h2]
theorem outP_eq {L : List Nat} {now p : Nat} (hp : p < L.length) (h : L[p] = now) :
    outP L now (p + 1) = (outP L now p).take (qP L now p) ++ now :: (outP L now p).drop (qP L now p) ∧ qP L now (p + 1) = qP L now p + 1 ∧ (outP L now (p + 1)).length = (outP L now p).length + 1 := by
  have e1 : leF now (L.take (p + 1)) = leF now (L.take p) ++ [now] := by
    unfold leF
    rw [List.take_succ_eq_append_getElem hp, List.filter_append, h]
    simp
  have e2 : ltF now (L.drop p) = ltF now (L.drop (p + 1)) := by
    unfold ltF
    rw [List.drop_eq_getElem_cons hp, h]
    simp
  unfold outP qP
  rw [e1, e2, List.take_left, List.drop_left]
  refine ⟨by simp, by simp, by simp; omega⟩
theorem ltF_next {L : List Nat} {now n : Nat} (h : ∀ c ∈ L, now ≤ c → n ≤ c) (hn : now ≤ n) : ltF n L = ltF now L := by
  unfold ltF
  refine List.filter_congr fun c hc => decide_eq_decide.2 ⟨fun h1 => ?_, fun h1 => by omega⟩
  rcases Nat.lt_or_ge c now with h2 | h2
  · exact h2
  · have := h c hc h2
    omega
theorem ltF_all {L : List Nat} {now : Nat} (h : ∀ c ∈ L, c < now) : ltF now L = L := by
  unfold ltF
  exact List.filter_eq_self.2 fun c hc => decide_eq_true (h c hc)

/-- What has been written is read up to here. -/
def Dec (base : List Nat) (D : List UInt8) (nd id bias : Nat) (out : List Nat) : Prop :=
  ∀ rest f, D.length + rest.length ≤ f → ∃ f', rest.length ≤ f' ∧ pdec f (D ++ rest) 128 0 72 base = pdec f' rest nd id bias out
theorem Dec.start (base : List Nat) : Dec base [] 128 0 72 base := fun rest f h => ⟨f, by simpa using h, rfl⟩
theorem Dec.step {base out : List Nat} {D E : List UInt8} {nd id bias delta now q : Nat} (h : Dec base D nd id bias out) (hne : E ≠ []) (hread : ∀ rest i, pread (E ++ rest) i 1 36 bias = some (i + delta, rest)) (hq : q ≤ out.length)
    (hS : nd * (out.length + 1) + id + delta = now * (out.length + 1) + q) (hsc : pscalar now = true) :
    Dec base (D ++ E) now (q + 1) (padapt delta (out.length + 1) (decide (id = 0))) (out.take q ++ now :: out.drop q) := by
  intro rest f hf
  have hEl := List.length_pos_iff.2 hne
  simp only [List.length_append] at hf
  obtain ⟨f1, h1, e1⟩ := h (E ++ rest) f (by simp; omega)
  simp only [List.length_append] at h1
  obtain ⟨f2, rfl⟩ : ∃ f2, f1 = f2 + 1 := ⟨f1 - 1, by omega⟩
  refine ⟨f2, by omega, ?_⟩
  rw [List.append_assoc, e1]
  exact pdec_step hne (hread rest id) hq hS hsc
theorem Dec.end_ {base out : List Nat} {D : List UInt8} {nd id bias : Nat} (h : Dec base D nd id bias out) : pdec D.length D 128 0 72 base = some out := by
  obtain ⟨f, _, e⟩ := h [] D.length (by simp)
  rw [List.append_nil] at e
  rw [e]
  cases f <;> rfl

/-- The plain characters. -/
def basL (L : List Nat) : List UInt8 := (L.filter fun c => decide (c < 128)).map UInt8.ofNat
theorem basL_snoc {L : List Nat} {k : Nat} (hk : k < L.length) : basL (L.take (k + 1)) = basL (L.take k) ++ (if L[k] < 128 then [UInt8.ofNat L[k]] else []) := by
  unfold basL
  rw [List.take_succ_eq_append_getElem hk, List.filter_append, List.map_append]
  congr 1
  by_cases h : L[k] < 128
  · rw [if_pos h]; simp [h]
  · rw [if_neg h]; simp [h]
theorem basL_len (L : List Nat) : (basL L).length ≤ L.length := by
  unfold basL
  rw [List.length_map]
  exact List.length_filter_le _ _
theorem basL_ascii (L : List Nat) : ∀ c ∈ basL L, c.toNat < 128 := by
  intro c hc
  unfold basL at hc
  obtain ⟨n, hn, rfl⟩ := List.mem_map.1 hc
  have := of_decide_eq_true (List.mem_filter.1 hn).2
  rw [UInt8.toNat_ofNat']
  omega
theorem basL_nat (L : List Nat) : (basL L).map UInt8.toNat = ltF 128 L := by
  unfold basL ltF
  rw [List.map_map]
  have : ∀ (l : List Nat), (∀ n ∈ l, n < 128) → l.map (UInt8.toNat ∘ UInt8.ofNat) = l := by
    intro l
    induction l with
    | nil => intro _; rfl
    | cons n l ih =>
      intro h
      have h1 := h n (by simp)
      rw [List.map_cons, ih fun m hm => h m (by simp [hm])]
      congr 1
      show (UInt8.ofNat n).toNat = n
      rw [UInt8.toNat_ofNat']
      omega
  exact this _ fun n hn => of_decide_eq_true (List.mem_filter.1 hn).2
theorem encode_small {n : Nat} (h : n < 128) : Utf8.encode (n : Int) = bs [UInt8.ofNat n] := by
  have hv : Utf8.valid (n : Int) = true := by
    unfold Utf8.valid
    simp
    omega
  unfold Utf8.encode
  rw [hv]
  simp only [if_true, Int.toNat_natCast]
  rw [if_pos h]
  rfl
/-- What stands ahead of the digits. -/
def preT (B : List UInt8) : List UInt8 := if B = [] then [] else B ++ [95]
/-- The least character from a number on. -/
def PunyNext (L : List Nat) (least : Nat) (r : Int) : Prop := Hid (NextIs L least r)
theorem drawn_below {w w' : World} (h : Drawn0 w w') : Below w.heap.size w w' := h.below
theorem next_any {w : World} {g cap : Nat} {L : List Nat} (hr : ChRow w g cap L) (hL : L.length ≤ 1001) (least : Nat) :
    Calls Try.prog 19 #[.slice (some ⟨g, 0, none⟩) L.length cap, .int .i64 (least : Int)] w fun e w' => ∃ r : Int, e = .returned (.int .i64 r) ∧ PunyNext L least r ∧ Below w.heap.size w w' := by
  obtain ⟨r, h1, h2⟩ := next_eq L least (by omega) L.length 0 (L.length + 1) (-1) (by omega) (by omega) (.inl ⟨rfl, by simp⟩)
  have h3 : PFnPunycodeMade.spec_idNext.f (L.length + 1) (ints L) (least : Int) = some r := by
    unfold PFnPunycodeMade.spec_idNext.f
    rw [ints_len]
    exact h1
  have hC := hr.c
  have := PFnPunycodeMade.spec_idNext.calls (L.length + 1) (some ⟨g, 0, none⟩) cap (ints L) (least : Int) r w hC (by rw [ints_len]; exact hr.le) h3
  rw [ints_len] at this
  exact this.mono fun e w' h => ⟨r, h.1, h2, h.2.below⟩
theorem sum_next {L : List Nat} {nd id delta now n m P : Nat} (hm : (ltF now L).length = m) (h : nd * ((ltF now L).length + 1) + id + delta = now * ((ltF now L).length + 1)) (hP : (n - now) * (m + 1) = P) (hn : now ≤ n) :
    nd * (m + 1) + id + (delta + P) = n * (m + 1) + 0 := by
  rw [hm] at h
  obtain ⟨d, rfl⟩ : ∃ d, n = now + d := ⟨n - now, by omega⟩
  rw [Nat.add_sub_cancel_left] at hP
  rw [Nat.add_mul, hP]
  omega
theorem sum_end {o : List Nat} {nd id de n M q : Nat} (hM : o.length = M) (hq : q = o.length) (h : nd * (o.length + 1) + id + de = n * (o.length + 1) + q) :
    nd * (M + 1) + id + (de + 1) = (n + 1) * (M + 1) := by
  rw [hM] at h hq
  rw [Nat.add_mul n 1]
  omega
theorem delta_any {de bi : Nat} (h1 : de ≤ 1500000000) (h2 : bi ≤ 20000000000000) :
    ∃ E : List UInt8, E ≠ [] ∧ E.length ≤ 11 ∧ (∀ c ∈ E, c ≠ 95) ∧ (∀ rest i, pread (E ++ rest) i 1 36 bi = some (i + de, rest)) ∧
      ∀ W : World, Calls Try.prog 20 #[.int .i64 (de : Int), .int .i64 (bi : Int)] W fun e w' => e = .returned (.string (bs E)) ∧ Below W.heap.size W w' := by
  obtain ⟨E, hE, hne, hl, h95, hread⟩ := delta_eq de 1 1 bi (de + 1) [] (by omega) (by omega) (by omega) (by omega) (by omega) (by simp; omega) (fun _ => rfl) (by omega)
  refine ⟨E, hne, hl 10 (by have : (10 : Nat) ^ 10 = 10000000000 := by decide
                            omega), h95, fun rest i => by simpa using hread rest i, fun W => ?_⟩
  have h3 : PFnPunycodeMade.spec_idDelta.f (de + 1) (de : Int) (bi : Int) = some (bs E) := by
    unfold PFnPunycodeMade.spec_idDelta.f
    rw [List.nil_append] at hE
    exact hE
  exact PFnPunycodeMade.spec_idDelta.calls (de + 1) (de : Int) (bi : Int) (bs E) W h3
theorem adapted_any {de m : Nat} (first : Bool) (h1 : de ≤ 1500000000) (hm : 1 ≤ m) (hm2 : m ≤ 1000000) (W : World) :
    Calls Try.prog 16 #[.int .i64 (de : Int), .int .i64 (m : Int), .bool first] W fun e w' => e = .returned (.int .i64 (padapt de m first : Int)) ∧ Below W.heap.size W w' := by
  obtain ⟨h2, _⟩ := adapt_eqE de m first 100000000000000 (by omega) hm (by omega) (Nat.le_refl _)
  exact (PFnPunycodeMade.spec_idAdapted.calls _ _ _ _ _ W h2).mono fun e w' h => ⟨h.1, h.2.below⟩
end Go.Proofs.Yteeodkmhelmedaa
