/- Lists that came in: rows of bytes, numbers, rows of numbers; names cut to the greatest length. -/
import Derived.Test.YtokjbdofpdncdaaDoorWord
import Derived.Test.YtokjbdofpdncdaaDoorItoa
import Derived.Deep.Matrix
import Derived.Laws.AppendOwn
namespace Go.Proofs.YtokjbdofpdncdaaDoor
open Go.RowKit Go.Lib Go.WideShapes Go.ChangeShapes
set_option linter.unusedVariables false
set_option maxRecDepth 100000
attribute [local go_sem] bs_size

theorem Bytes.take {w : World} {A : Option Addr} {n : Nat} {l : List UInt8} (h : Bytes w A n l) (k : Nat) (hk : k ≤ n) : Bytes w A k (l.take k) := by
  obtain ⟨rfl, h⟩ := h
  refine ⟨by simp; omega, ?_⟩
  rcases h with h | ⟨b, off, hA, hlt, hc⟩
  · exact .inl (by rw [h]; simp)
  · refine .inr ⟨b, off, hA, hlt, fun i hi => ?_⟩
    rw [hc i (by simp at hi; omega)]
    simp

/-- A list of rows of bytes that came in. -/
def NamesAt (w : World) (A : Option Addr) (n : Nat) (ls : List (List UInt8)) : Prop :=
  ls.length = n ∧ (ls = [] ∨ ∃ b off, A = some ⟨b, off, none⟩ ∧ b < w.heap.size ∧ ∀ i (h : i < ls.length), ∃ Ar Cr, w.cell? ⟨b, off + i, none⟩ = some (.slice Ar ls[i].length Cr) ∧ Bytes w Ar ls[i].length ls[i] ∧ ls[i].length ≤ Cr ∧ Cr ≤ maxLen)
theorem NamesAt.below {w w' : World} {A : Option Addr} {n : Nat} {ls : List (List UInt8)} (h : NamesAt w A n ls) (hb : Below w.heap.size w w') : NamesAt w' A n ls := by
  refine ⟨h.1, ?_⟩
  rcases h.2 with h | ⟨b, off, hA, hlt, hc⟩
  · exact .inl h
  · refine .inr ⟨b, off, hA, Nat.lt_of_lt_of_le hlt hb.size, fun i hi => ?_⟩
    obtain ⟨Ar, Cr, h1, h2, h3⟩ := hc i hi
    exact ⟨Ar, Cr, (hb.cell (p := ⟨b, off + i, none⟩) hlt).trans h1, h2.below hb, h3⟩
/-- A list of numbers that came in. -/
def IntsAt (w : World) (A : Option Addr) (n : Nat) (zs : List Int) : Prop :=
  zs.length = n ∧ (∀ z ∈ zs, (Lit.int .i64 z).wf = true) ∧ (zs = [] ∨ ∃ b off, A = some ⟨b, off, none⟩ ∧ b < w.heap.size ∧ ∀ i (h : i < zs.length), w.cell? ⟨b, off + i, none⟩ = some (.int .i64 zs[i]))
theorem IntsAt.below {w w' : World} {A : Option Addr} {n : Nat} {zs : List Int} (h : IntsAt w A n zs) (hb : Below w.heap.size w w') : IntsAt w' A n zs := by
  refine ⟨h.1, h.2.1, ?_⟩
  rcases h.2.2 with h | ⟨b, off, hA, hlt, hc⟩
  · exact .inl h
  · exact .inr ⟨b, off, hA, Nat.lt_of_lt_of_le hlt hb.size, fun i hi => (hb.cell (p := ⟨b, off + i, none⟩) hlt).trans (hc i hi)⟩
theorem spot_none {w : World} {x : Addr} {v : Value} (h : w.cell? x = some v) : ∃ b off, x = ⟨b, off, none⟩ ∧ b < w.heap.size := by
  have hlt := World.block_lt_of_cell? w _ h
  obtain ⟨b, off, sp⟩ := x
  cases sp with
  | none => exact ⟨b, off, rfl, hlt⟩
  | some k =>
    simp only [World.cell?] at h
    split at h <;> simp at h
theorem add_none (b off i : Nat) : (⟨b, off, none⟩ : Addr).add i = ⟨b, off + i, none⟩ := by unfold Addr.add; split <;> simp_all

theorem ints_open {H : Type} {enc : TypeId × Value → H} {w : World} {held : Bool} {A : Option Addr} {n c : Nat} {d : DataW H} {p : List MemPlace}
    (h : DataW.Trod enc Tryd.prog w 0 (fun _ => true) held 49 (.slice A n c) d p) : ∃ zs, IntsAt w A n zs ∧ n ≤ maxLen ∧ n ≤ c := by
  obtain ⟨fuel, hf⟩ := h
  rcases open_ints Tryd.underlying49 Tryd.underlying3 (by kernel_rfl) hf with ⟨hcs, _⟩ | ⟨x, l, cp, zs, hcs, _, hl, hm, hz, _, hcell, hwz⟩
  · simp [Value.cells] at hcs
    obtain ⟨rfl, rfl, rfl⟩ := hcs
    exact ⟨[], ⟨rfl, by simp, .inl rfl⟩, by simp [maxLen], Nat.le_refl _⟩
  · simp [Value.cells] at hcs
    obtain ⟨rfl, rfl, rfl⟩ := hcs
    simp only [if_true] at hz
    refine ⟨zs.take n, ⟨by simp; omega, fun z hzm => hwz z (List.mem_of_mem_take hzm), ?_⟩, by omega, hl⟩
    by_cases h0 : n = 0
    · subst h0; exact .inl (by simp)
    · obtain ⟨b, off, e, hlt⟩ := spot_none (x := x) (hcell 0 (by omega))
      subst e
      refine .inr ⟨b, off, rfl, hlt, fun i hi => ?_⟩
      simp only [List.length_take] at hi
      have h1 := hcell i (by omega)
      rw [add_none] at h1
      rw [h1]
      simp [List.getD, List.getElem?_eq_getElem (show i < zs.length by omega)]
def fitsN (ls : List (List UInt8)) : Bool := decide (ls.length ≤ 2147483647) && ls.all fun l => decide (l.length ≤ 2147483647)
theorem fitsN_big {ls : List (List UInt8)} (h : 2147483647 < ls.length) : fitsN ls = false := by
  unfold fitsN; rw [decide_eq_false (by omega)]; rfl
theorem fitsN_row {ls : List (List UInt8)} {k : Nat} (hk : k < ls.length) (h : 2147483647 < ls[k].length) : fitsN ls = false := by
  unfold fitsN
  rw [Bool.and_eq_false_iff]
  refine .inr (List.all_eq_false.2 ⟨ls[k], List.getElem_mem hk, ?_⟩)
  simp; omega
theorem fitsN_all {ls : List (List UInt8)} (h : ¬ 2147483647 < ls.length) (hr : ∀ i (hi : i < ls.length), i < ls.length → ls[i].length ≤ 2147483647) : fitsN ls = true := by
  unfold fitsN
  rw [Bool.and_eq_true]
  refine ⟨decide_eq_true (by omega), List.all_eq_true.2 fun l hl => ?_⟩
  obtain ⟨i, hi, rfl⟩ := List.mem_iff_getElem.1 hl
  exact decide_eq_true (hr i hi hi)
theorem ret_bool {a b : Bool} (h : a = b) : Ending.returned (.bool a) = .returned (.bool b) := by rw [h]
end Go.Proofs.YtokjbdofpdncdaaDoor
