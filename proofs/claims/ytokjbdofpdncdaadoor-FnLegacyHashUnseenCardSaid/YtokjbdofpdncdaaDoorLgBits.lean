/- Sixteen bits and how many of them are set; the hash of an old-style name. No memory, no program. -/
import Derived.Test.YtokjbdofpdncdaaDoorLgP
namespace Go.Proofs.YtokjbdofpdncdaaDoor
open Go.RowKit Go.Lib
set_option linter.unusedVariables false

def bit (m i : Nat) : Nat := if m.testBit i then 1 else 0
def pop16 (m : Nat) : Nat := bit m 0 + bit m 1 + bit m 2 + bit m 3 + bit m 4 + bit m 5 + bit m 6 + bit m 7 + bit m 8 + bit m 9 + bit m 10 + bit m 11 + bit m 12 + bit m 13 + bit m 14 + bit m 15
def popLo (m : Nat) : Nat := bit m 0 + bit m 1 + bit m 2 + bit m 3 + bit m 4 + bit m 5 + bit m 6 + bit m 7
theorem bit_mod {m i : Nat} (h : i < 8) : bit (m % 256) i = bit m i := by
  unfold bit
  rw [show (256 : Nat) = 2 ^ 8 from rfl, Nat.testBit_mod_two_pow]
  simp [h]
theorem bit_div (m i : Nat) : bit (m / 256) i = bit m (8 + i) := by
  unfold bit
  rw [show (256 : Nat) = 2 ^ 8 from rfl, Nat.testBit_div_two_pow, Nat.add_comm]
theorem pop16_two (m : Nat) : pop16 m = popLo (m / 256) + popLo (m % 256) := by
  unfold pop16 popLo
  simp only [bit_div, Nat.add_zero, Nat.reduceAdd]
  rw [bit_mod (by decide), bit_mod (by decide), bit_mod (by decide), bit_mod (by decide), bit_mod (by decide), bit_mod (by decide), bit_mod (by decide), bit_mod (by decide)]
  omega
def popTab : List UInt8 := (List.range 256).map fun n => UInt8.ofNat (popLo n)
theorem popTab_at : ∀ n, n < 256 → (popTab.getD n 0).toNat = popLo n := by decide +kernel
theorem popLo_le (n : Nat) : popLo n ≤ 8 := by
  unfold popLo bit
  repeat' split
  all_goals omega
theorem bit_or (m d i : Nat) : bit (m ||| 2 ^ d) i = if d = i then 1 else bit m i := by
  unfold bit
  rw [Nat.testBit_or, Nat.testBit_two_pow]
  by_cases h : d = i
  · simp [h]
  · simp [h]
theorem bit_le (m i : Nat) : bit m i ≤ 1 := by unfold bit; split <;> omega
theorem pop16_or {m d : Nat} (h : d < 16) : pop16 (m ||| 2 ^ d) + bit m d = pop16 m + 1 := by
  have hd : d = 0 ∨ d = 1 ∨ d = 2 ∨ d = 3 ∨ d = 4 ∨ d = 5 ∨ d = 6 ∨ d = 7 ∨ d = 8 ∨ d = 9 ∨ d = 10 ∨ d = 11 ∨ d = 12 ∨ d = 13 ∨ d = 14 ∨ d = 15 := by omega
  unfold pop16
  simp only [bit_or]
  rcases hd with rfl | rfl | rfl | rfl | rfl | rfl | rfl | rfl | rfl | rfl | rfl | rfl | rfl | rfl | rfl | rfl <;> simp <;> omega
theorem or_lt {m d : Nat} (h : d < 16) (hm : m < 65536) : m ||| 2 ^ d < 65536 := by
  have : (2 : Nat) ^ d < 2 ^ 16 := Nat.pow_lt_pow_right (by decide) h
  exact Nat.or_lt_two_pow (n := 16) hm this

def hexV (c : UInt8) : Nat := (hexLo c).getD 0
theorem hexLo_lt {c : UInt8} {d : Nat} (h : hexLo c = some d) : d < 16 := by
  unfold hexLo at h
  split at h
  · simp at h; omega
  · split at h
    · simp at h; omega
    · cases h
theorem hexV_lt (c : UInt8) : hexV c < 16 := by
  unfold hexV
  cases h : hexLo c with
  | none => simp
  | some d => simpa using hexLo_lt h
/-- Which digits there are. -/
def maskH (l : List UInt8) : Nat := l.foldl (fun m c => m ||| 2 ^ hexV c) 0
theorem maskH_snoc (l : List UInt8) (c : UInt8) : maskH (l ++ [c]) = maskH l ||| 2 ^ hexV c := by simp [maskH]
theorem maskH_lt : ∀ (l : List UInt8), maskH l < 65536 := by
  have key : ∀ (l : List UInt8) (m : Nat), m < 65536 → l.foldl (fun m c => m ||| 2 ^ hexV c) m < 65536 := by
    intro l
    induction l with
    | nil => intro m h; exact h
    | cons c l ih => intro m h; exact ih _ (or_lt (hexV_lt c) h)
  exact fun l => key l 0 (by decide)
/-- A hash: sixteen digits in base 16, at least five of which are different. -/
def HashOk (h : List UInt8) : Prop := h.length = 16 ∧ (∀ c ∈ h, hexLo c = some (hexV c)) ∧ 5 ≤ pop16 (maskH h)

def hxTab : List UInt8 := [48, 49, 50, 51, 52, 53, 54, 55, 56, 57, 97, 98, 99, 100, 101, 102]
def hx (k : Nat) : UInt8 := hxTab.getD k 0
theorem hx_lo : ∀ k, k < 16 → hexLo (hx k) = some k := by decide +kernel
theorem hx_v {k : Nat} (h : k < 16) : hexV (hx k) = k := by unfold hexV; rw [hx_lo k h]; rfl
theorem ext_hx (k : Nat) (h : k < 16) : (ByteArray.mk #[48, 49, 50, 51, 52, 53, 54, 55, 56, 57, 97, 98, 99, 100, 101, 102]).extract k (k + 1) = bs [hx k] := by
  show (bs hxTab).extract _ _ = _
  rw [bs_extract]
  congr 1
  have : ∀ j, j < 16 → (hxTab.drop j).take (j + 1 - j) = [hx j] := by decide +kernel
  exact this _ h
/-- The reference's hash out of bytes. -/
def digAt (l : List UInt8) (i : Nat) : Nat := if i < l.length then (l.getD i 0).toNat % 16 else 0
theorem digAt_lt (l : List UInt8) (i : Nat) : digAt l i < 16 := by unfold digAt; split <;> omega
def hashK (l : List UInt8) (k : Nat) : List UInt8 := (List.range k).map fun i => hx (digAt l i)
theorem hashK_next (l : List UInt8) (k : Nat) : hashK l (k + 1) = hashK l k ++ [hx (digAt l k)] := by unfold hashK; rw [List.range_succ, List.map_append]; rfl
theorem hashK_len (l : List UInt8) (k : Nat) : (hashK l k).length = k := by unfold hashK; simp
theorem maskK_next (l : List UInt8) (k : Nat) : maskH (hashK l (k + 1)) = maskH (hashK l k) ||| 2 ^ digAt l k := by
  rw [hashK_next, maskH_snoc, hx_v (digAt_lt l k)]
theorem hashK_ok {l : List UInt8} (h : 5 ≤ pop16 (maskH (hashK l 16))) : HashOk (hashK l 16) := by
  refine ⟨hashK_len l 16, fun c hc => ?_, h⟩
  unfold hashK at hc
  obtain ⟨i, _, rfl⟩ := List.mem_map.1 hc
  rw [hx_lo _ (digAt_lt l i), hx_v (digAt_lt l i)]
theorem hashK_bytes (l : List UInt8) (k : Nat) : ∀ c ∈ hashK l k, hexLo c = some (hexV c) := by
  intro c hc
  unfold hashK at hc
  obtain ⟨i, _, rfl⟩ := List.mem_map.1 hc
  rw [hx_lo _ (digAt_lt l i), hx_v (digAt_lt l i)]
end Go.Proofs.YtokjbdofpdncdaaDoor
