/- A slice of bytes that came in; what it is as a text. -/
import Derived.Test.YtokjbdofpdncdaaDoorBase
import Derived.Test.YtokjbdofpdncdaaDoorRows
import Derived.Laws.BytesArg
namespace Go.Proofs.YtokjbdofpdncdaaDoor
open Go.RowKit
set_option linter.unusedVariables false

/-- Texts put together. -/
theorem add_bs {P : Program} (x y : List UInt8) (h : x.length + y.length ≤ 9223372036854775807) (W : World) : (Op.stringOp .add (bs x) (bs y)).run P W = .ok (.string (bs (x ++ y))) W := by
  rw [run_string_add_sum _ _ _ (by rw [bs_size, bs_size]; exact h), bs_append]

/-- The slice A, n long, holds the bytes l. -/
def Bytes (w : World) (A : Option Addr) (n : Nat) (l : List UInt8) : Prop :=
  l.length = n ∧ (l = [] ∨ ∃ b off, A = some ⟨b, off, none⟩ ∧ b < w.heap.size ∧ ∀ i (h : i < l.length), w.cell? ⟨b, off + i, none⟩ = some (.int .u8 (l[i].toNat : Int)))

theorem Bytes.below {w w' : World} {A : Option Addr} {n : Nat} {l : List UInt8} (h : Bytes w A n l) (hb : Below w.heap.size w w') : Bytes w' A n l := by
  refine ⟨h.1, ?_⟩
  rcases h.2 with h | ⟨b, off, hA, hlt, hc⟩
  · exact .inl h
  · exact .inr ⟨b, off, hA, Nat.lt_of_lt_of_le hlt hb.size, fun i hi => (hb.cell (p := ⟨b, off + i, none⟩) hlt).trans (hc i hi)⟩

/-- A row of numbers read as bytes. -/
theorem bytes_of_row {w : World} {A : Option Addr} {len cap : Nat} {zs : List Int}
    (h : (A = none ∧ len = 0 ∧ cap = 0 ∧ zs = []) ∨
      ∃ x, A = some x ∧ len ≤ cap ∧ cap ≤ maxLen ∧ zs.length = cap ∧ (∀ i, i < zs.length → w.cell? (x.add i) = some (.int .u8 (zs.getD i 0))) ∧ ∀ n ∈ zs, (Lit.int .u8 n).wf = true) :
    ∃ l : List UInt8, Bytes w A len l := by
  rcases h with ⟨rfl, rfl, rfl, rfl⟩ | ⟨x, rfl, hl, hm, hz, hc, hw⟩
  · exact ⟨[], rfl, .inl rfl⟩
  · by_cases h0 : len = 0
    · subst h0
      exact ⟨[], rfl, .inl rfl⟩
    · refine ⟨(zs.take len).map fun n => UInt8.ofNat n.toNat, by simp; omega, .inr ?_⟩
      have c0 := hc 0 (by omega)
      have hspot : x.spot = none := by
        cases hs : x.spot with
        | none => rfl
        | some k =>
          have : x.add 0 = x := rfl
          rw [this] at c0
          simp only [World.cell?, hs] at c0
          split at c0 <;> simp at c0
      obtain ⟨b, off, sp⟩ := x
      simp only at hspot
      subst hspot
      have hadd : ∀ i, (⟨b, off, none⟩ : Addr).add i = ⟨b, off + i, none⟩ := fun i => by unfold Addr.add; split <;> simp_all
      refine ⟨b, off, rfl, ?_, ?_⟩
      · have := World.block_lt_of_cell? w _ c0
        exact this
      · intro i hi
        simp only [List.length_map, List.length_take] at hi
        have h1 := hc i (by omega)
        rw [hadd] at h1
        rw [h1]
        have hin : zs[i]'(by omega) ∈ zs := List.getElem_mem _
        have hwf := hw _ hin
        have hx : 0 ≤ zs[i]'(by omega) ∧ zs[i]'(by omega) ≤ 255 := by simpa [Lit.wf, IntKind.min, IntKind.max, IntKind.signed, IntKind.bits] using hwf
        have e : zs.getD i 0 = zs[i]'(by omega) := by simp [List.getD, List.getElem?_eq_getElem (show i < zs.length by omega)]
        rw [e]
        simp only [List.getElem_map, List.getElem_take, UInt8.toNat_ofNat']
        congr 2
        omega

section
variable {P : Program}
theorem foldl_push (l : List UInt8) : ∀ s : ByteArray, (l.map fun c => (c.toNat : Int)).foldl (fun r n => r.push (UInt8.ofNat n.toNat)) s = ⟨s.data ++ l.toArray⟩ := by
  intro s
  rw [foldl_push_bytes]
  congr 2
  simp [List.map_map, Function.comp_def]

/-- The text of the bytes. -/
theorem Bytes.convert {w : World} {A : Option Addr} {n : Nat} {l : List UInt8} (h : Bytes w A n l) (c : Nat) {src e dst : TypeId} (hs : P.underlying src = some (.slice e)) (he : P.underlying e = some (.int .u8)) (hd : P.underlying dst = some .string) :
    (convert src dst (.slice A n c)).run P w = .ok (.string (bs l)) w := by
  obtain ⟨rfl, h⟩ := h
  rw [run_convert_bytes_string w src dst e _ _ c hs he hd]
  have key : ∀ b off, A = some ⟨b, off, none⟩ → (∀ i (h : i < l.length), w.cell? ⟨b, off + i, none⟩ = some (.int .u8 (l[i].toNat : Int))) →
      (Conv.bytesToString (.slice A l.length c)).run P w = .ok (.string (bs l)) w := by
    rintro b off rfl hc
    have hl : (loadCells ⟨b, off, none⟩ l.length).run P w = .ok ((l.map fun c => (c.toNat : Int)).map (Value.int .u8)).toArray w := by
      have := run_loadCells_list (P := P) w ⟨b, off, none⟩ ((l.map fun c => (c.toNat : Int)).map (Value.int .u8)) (fun j v hj => by
        have hjl : j < l.length := by
          rcases Nat.lt_or_ge j l.length with h | h
          · exact h
          · simp [List.getElem?_eq_none h] at hj
        have hplain : (⟨b, off, none⟩ : Addr).add j = ⟨b, off + j, none⟩ := by unfold Addr.add; split <;> simp_all
        rw [hplain, hc j hjl]
        simp [List.getElem?_eq_getElem hjl] at hj
        subst hj
        rfl)
      simpa using this
    rw [run_bytesToString w _ _ c _ hl, foldl_push]
    simp [bs, ByteArray.empty, ByteArray.emptyWithCapacity]
    rfl
  rcases h with rfl | ⟨b, off, hA, _, hc⟩
  · cases A with
    | none => simp [Conv.bytesToString]; rfl
    | some a =>
      obtain ⟨b, off, sp⟩ := a
      have hl : (loadCells ⟨b, off, sp⟩ 0).run P w = .ok (([] : List Int).map (Value.int .u8)).toArray w := by simp [loadCells, loadCellsFrom]
      rw [show ([] : List UInt8).length = 0 from rfl, run_bytesToString w _ _ c _ hl]
      rfl
  · exact key b off hA hc
end
/-- Two variables that are listed. -/
theorem trodVars_two {H : Type} {enc : TypeId × Value → H} {P : Program} {w : World} {spare : Nat → Bool} {n m : String} {gs : List (DataW H)} {ps : List MemPlace} (h : DataW.TrodVars enc P w spare [n, m] gs ps) : ∃ d e, gs = [d, e] := by
  cases gs with
  | nil => simp [DataW.TrodVars] at h
  | cons d gs =>
    obtain ⟨_, _, _, _, _, _, _, _, _, _, h, _⟩ := h
    cases gs with
    | nil => simp [DataW.TrodVars] at h
    | cons e gs =>
      obtain ⟨_, _, _, _, _, _, _, _, _, _, h, _⟩ := h
      cases gs with
      | nil => exact ⟨d, e, rfl⟩
      | cons f gs => simp [DataW.TrodVars] at h
/-- A byte that came in. -/
theorem u8_of {a : Int} (h : (Lit.int .u8 a).wf = true) : ∃ c : UInt8, a = (c.toNat : Int) := by
  have h2 : decide (0 ≤ a) = true ∧ decide (a ≤ 255) = true := (Bool.and_eq_true _ _).mp h
  have h3 : 0 ≤ a := of_decide_eq_true h2.1
  have h4 : a ≤ 255 := of_decide_eq_true h2.2
  refine ⟨UInt8.ofNat a.toNat, ?_⟩
  rw [UInt8.toNat_ofNat']
  omega
/-- A number of 64 bits that came in. -/
theorem u64_of {a : Int} (h : (Lit.int .u64 a).wf = true) : ∃ n : Nat, a = (n : Int) ∧ n ≤ 18446744073709551615 := by
  have h2 : decide (0 ≤ a) = true ∧ decide (a ≤ 18446744073709551615) = true := (Bool.and_eq_true _ _).mp h
  have h3 : 0 ≤ a := of_decide_eq_true h2.1
  have h4 : a ≤ 18446744073709551615 := of_decide_eq_true h2.2
  exact ⟨a.toNat, by omega, by omega⟩
/-- A new slice of one byte, as a text. -/
theorem convert_one {P : Program} {src e dst : TypeId} (hs : P.underlying src = some (.slice e)) (he : P.underlying e = some (.int .u8)) (hd : P.underlying dst = some .string) (w : World) {x : Int} {c : UInt8} (hx : x = (c.toNat : Int)) (t : TypeId) :
    (convert src dst (.slice (some ⟨w.heap.size, 0, none⟩) 1 1)).run P (w.alloc (.cells #[.int .u8 x] t)) = .ok (.string (bs [c])) (w.alloc (.cells #[.int .u8 x] t)) := by
  subst hx
  refine Bytes.convert (l := [c]) ⟨rfl, .inr ⟨_, 0, rfl, by simp, fun i hi => ?_⟩⟩ 1 hs he hd
  have : i = 0 := by simp at hi; omega
  subst this
  exact (Blk.new w t #[.int .u8 (c.toNat : Int)]).cell 0
end Go.Proofs.YtokjbdofpdncdaaDoor
