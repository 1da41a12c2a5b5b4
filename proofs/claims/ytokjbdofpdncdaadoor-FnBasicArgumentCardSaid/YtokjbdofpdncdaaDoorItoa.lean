/- A number written in decimal by the library; the library's table of powers. -/
import Derived.Test.YtokjbdofpdncdaaDoorShelf
import Derived.Test.YtokjbdofpdncdaaDoorDecRead
import Derived.Test.YtokjbdofpdncdaaDoorRows
import Derived.Lib.LaidTab
import Derived.LaidMore
import Derived.MakeChecks
namespace Go.Proofs.YtokjbdofpdncdaaDoor
open Go.RowKit Go.Lib
set_option linter.unusedVariables false

theorem below_grow {w w' : World} {B k : Nat} {os : Array Obj} (hB : B ≤ w.heap.size) (h : w' = Go.Sort.grow (w.drewN k) os) : Below B w w' := by
  subst h
  have h1 : Below B w (w.drewN k) := below_drewN (Below.refl _ _) k
  refine ⟨h1.os, h1.tape, h1.output, ?_, fun j hj => ?_⟩
  · show w.heap.size ≤ (w.heap ++ os).size
    simp
  · show (w.heap ++ os)[j]? = w.heap[j]?
    exact Array.getElem?_append_left (by omega)

/-- The table of powers lies below block B. -/
def Pow (w : World) (B : Nat) : Prop := 2 < B ∧ B ≤ w.heap.size ∧ TabIs Tryd.prog w "internal/strconv.uint64pow10" .u64 pow10Tab
theorem gPow : Tryd.prog.globalNamed "internal/strconv.uint64pow10" = some 2 := by kernel_rfl
theorem Pow.keep {w w' : World} {B B' : Nat} (h : Pow w B) (hb : Below B' w w') (hB : B ≤ B') : Pow w' B := by
  obtain ⟨h0, h1, h2⟩ := h
  refine ⟨h0, Nat.le_trans h1 hb.size, ?_⟩
  unfold TabIs at h2 ⊢
  rw [← h2]
  simp only [World.var?, gPow, Option.bind_some]
  rw [hb.block 2 (by omega)]
theorem Pow.up {w : World} {B B' : Nat} (h : Pow w B) (hB : B ≤ B') (hs : B' ≤ w.heap.size) : Pow w B' := ⟨Nat.lt_of_lt_of_le h.1 hB, hs, h.2.2⟩
theorem Pow.drew {w : World} {B : Nat} (h : Pow w B) : Pow w.drew B := h

theorem itoa_any {w : World} {B : Nat} (h : Pow w B) (n : Nat) (hn : n ≤ 9223372036854775807) :
    Calls Tryd.prog 24 #[.int .i64 (n : Int)] w fun e w' => e = .returned (.string (bs (decDigits n))) ∧ Below w.heap.size w w' := by
  refine (Tryd.strconv_Itoa (n : Int) (by omega) (by omega) w h.2.2).mono ?_
  rintro e w' ⟨rfl, k, os, h⟩
  refine ⟨?_, below_grow (Nat.le_refl _) h⟩
  rw [itoa_nonneg]
  rfl

theorem pow_of_laidMet {w : World} {l : List (String × DataW Unit)} (h : laidMet Tryd.prog l w) (hm : ("internal/strconv.uint64pow10", tabData .u64 pow10Tab) ∈ l) : Pow w w.heap.size := by
  have key : ∀ (l : List (String × DataW Unit)) (ps : List MemPlace), DataW.LaidVars Tryd.prog w l ps → ("internal/strconv.uint64pow10", tabData .u64 pow10Tab) ∈ l → TabIs Tryd.prog w "internal/strconv.uint64pow10" .u64 pow10Tab := by
    intro l
    induction l with
    | nil => intro ps _ hm; cases hm
    | cons a l ih =>
      obtain ⟨nm, d⟩ := a
      intro ps h hm
      obtain ⟨g, t, cs, fuel, p, q, hg, ht, hvar, hd, hrest, _⟩ := h
      rcases List.mem_cons.1 hm with hm | hm
      · simp only [Prod.mk.injEq] at hm
        obtain ⟨rfl, rfl⟩ := hm
        obtain rfl := Option.some.inj (gPow.symm.trans hg)
        obtain rfl := Option.some.inj ((show (Tryd.prog.globals[2]?).map (·.type) = some 148 by kernel_rfl).symm.trans ht)
        unfold TabIs
        rw [hvar, ← cells_of_tab Tryd.underlying148 Tryd.underlying35 (by kernel_rfl) (by kernel_rfl) hd]
      · exact ih _ hrest hm
  obtain ⟨ps, hl, _⟩ := h
  have ht := key l ps hl hm
  refine ⟨?_, Nat.le_refl _, ht⟩
  rcases Nat.lt_or_ge 2 w.heap.size with h | h
  · exact h
  · unfold TabIs at ht
    simp [World.var?, gPow, Array.getElem?_eq_none h] at ht
end Go.Proofs.YtokjbdofpdncdaaDoor
