/- (*strings.Builder).String where the Builder lies anywhere in a block: its text; what lies below the buffer's base stays. -/
import Derived.Test.YtokjbdofpdncdaaDoorRst
import Derived.Lib.UnsafeStr
namespace Go.Proofs.YtokjbdofpdncdaaDoor
open Go.RowKit
set_option linter.unusedVariables false

theorem strLen (w : World) (pt it ty : TypeId) (q : Option Addr) : (Builtin.unsafeString_ #[pt, it] ty #[.pointer q, .int .i64 0]).run Tryd.prog w = .ok (.string (bs [])) w :=
  Lib.run_unsafeString_none w _ _ _ q

theorem string_nil {w : World} {b o B : Nat} (hc : w.cell? ⟨b, o + 1, none⟩ = some (.slice none 0 0)) :
    Calls Tryd.prog 65 #[.pointer (some ⟨b, o, none⟩)] w fun e w' => e = .returned (.string (bs [])) ∧ Below B w w' := by
  have hUS := strLen
  have c1 : w.drew.cell? ⟨b, o + 1, none⟩ = some (.slice none 0 0) := hc
  clear hc
  have hSD : (Builtin.unsafeSliceData_ #[23] 128 #[.slice none 0 0]).run Tryd.prog w.drew = .ok (.pointer none) w.drew := rfl
  go_enter Tryd.func65, Tryd.ntmps65
  go_wp2
  go_region
  all_goals (go_wp2; go_ret; exact ⟨rfl, Below.drew (Below.refl B w)⟩)

theorem string_room {w : World} {b o g cap B : Nat} (h0 : cap ≠ 0) (hc : w.cell? ⟨b, o + 1, none⟩ = some (.slice (some ⟨g, 0, none⟩) 0 cap)) :
    Calls Tryd.prog 65 #[.pointer (some ⟨b, o, none⟩)] w fun e w' => e = .returned (.string (bs [])) ∧ Below B w w' := by
  have hUS := strLen
  have c1 : w.drew.cell? ⟨b, o + 1, none⟩ = some (.slice (some ⟨g, 0, none⟩) 0 cap) := hc
  clear hc
  have hSD : (Builtin.unsafeSliceData_ #[23] 128 #[.slice (some ⟨g, 0, none⟩) 0 cap]).run Tryd.prog w.drew = .ok (.pointer (some ⟨g, 0, none⟩)) w.drew :=
    Lib.run_unsafeSliceData_row _ _ _ _ _ _ h0
  clear h0
  go_enter Tryd.func65, Tryd.ntmps65
  go_wp2
  go_region
  all_goals (go_wp2; go_ret; exact ⟨rfl, Below.drew (Below.refl B w)⟩)

theorem string_noroom {w : World} {b o g B : Nat} {cur : Array Value} (hB : B ≤ w.heap.size) (hb : b < w.heap.size) (hg : w.heap[g]? = some (.cells cur 5 (0, 0))) (hc : w.cell? ⟨b, o + 1, none⟩ = some (.slice (some ⟨g, 0, none⟩) 0 0)) :
    Calls Tryd.prog 65 #[.pointer (some ⟨b, o, none⟩)] w fun e w' => e = .returned (.string (bs [])) ∧ Below B w w' := by
  have hUS := strLen
  have c1 : w.drew.cell? ⟨b, o + 1, none⟩ = some (.slice (some ⟨g, 0, none⟩) 0 0) := hc
  have hSD : (Builtin.unsafeSliceData_ #[23] 128 #[.slice (some ⟨g, 0, none⟩) 0 0]).run Tryd.prog w.drew = .ok (.pointer (some ⟨w.drew.heap.size, 0, none⟩)) (w.drew.alloc (.view ⟨g, 0, none⟩ 5)) :=
    Lib.run_unsafeSliceData_zero w.drew _ _ 5 Tryd.underlying128 ⟨g, 0, none⟩ 0 (5, cur.size) (by have hg' : w.drew.heap[g]? = some (.cells cur 5 (0, 0)) := hg; simp [World.shape?, hg'])
  have c2 : (w.drew.alloc (.view ⟨g, 0, none⟩ 5)).cell? ⟨b, o + 1, none⟩ = some (.slice (some ⟨g, 0, none⟩) 0 0) :=
    (World.cell?_alloc_lt w.drew _ _ hb).trans hc
  have c3 : (w.alloc (.view ⟨g, 0, none⟩ 5)).drew.cell? ⟨b, o + 1, none⟩ = some (.slice (some ⟨g, 0, none⟩) 0 0) := c2
  clear hc hg hb
  go_enter Tryd.func65, Tryd.ntmps65
  go_wp2
  go_region
  all_goals (go_wp2; go_ret; exact ⟨rfl, (Below.drew (Below.refl B w)).alloc hB _⟩)

theorem string_some {w : World} {b o g cap B : Nat} {l : List UInt8} {cur : Array Value} (h0 : l ≠ []) (hB : B ≤ g) (hg : w.heap[g]? = some (.cells cur 5 (0, 0))) (hn : l.length ≤ cap) (hm : cap ≤ maxLen) (hs : cur.size = cap) (ht : cur.toList.take l.length = byteCells l)
    (hc : w.cell? ⟨b, o + 1, none⟩ = some (.slice (some ⟨g, 0, none⟩) l.length cap)) :
    Calls Tryd.prog 65 #[.pointer (some ⟨b, o, none⟩)] w fun e w' => e = .returned (.string (bs l)) ∧ Below B w w' := by
  have hl0 : l.length ≠ 0 := by simpa using h0
  have c1 : w.drew.cell? ⟨b, o + 1, none⟩ = some (.slice (some ⟨g, 0, none⟩) l.length cap) := hc
  have hSD : (Builtin.unsafeSliceData_ #[23] 128 #[.slice (some ⟨g, 0, none⟩) l.length cap]).run Tryd.prog w.drew = .ok (.pointer (some ⟨g, 0, none⟩)) w.drew :=
    Lib.run_unsafeSliceData_row _ _ _ _ _ _ (by omega)
  have hg' : w.drew.heap[g]? = some (.cells cur 5 (0, 0)) := hg
  have hUS : (Builtin.unsafeString_ #[128, 3] 9 #[.pointer (some ⟨g, 0, none⟩), .int .i64 l.length]).run Tryd.prog w.drew = .ok (.string (bs l)) (w.drew.freeze ⟨g, 0, none⟩ l.length) := by
    refine Lib.run_unsafeString_row w.drew 128 3 9 5 Tryd.underlying128 (by kernel_rfl) g cur.size (by simp [World.shape?, hg']) l h0 (by omega) (by unfold maxLen at hm; omega) ?_
    intro j x hx
    have hj : j < l.length := by
      rcases Nat.lt_or_ge j l.length with h | h
      · exact h
      · rw [List.getElem?_eq_none h] at hx; cases hx
    have h1 : (byteCells l)[j]? = some (.int .u8 x.toNat) := by simp [byteCells, hx]
    rw [← ht, List.getElem?_take_of_lt hj, Array.getElem?_toList] at h1
    have : (⟨g, 0, none⟩ : Addr).add j = ⟨g, j, none⟩ := by unfold Addr.add; split <;> simp_all
    rw [this, cell_of_row w.drew g j cur 5 (0, 0) hg']
    exact h1
  clear hc hg hg' h0 hl0 hn hm hs ht
  go_enter Tryd.func65, Tryd.ntmps65
  go_wp2
  go_region
  all_goals (go_wp2; go_ret; exact ⟨rfl, Lib.below_freeze (Below.drew (Below.refl B w)) (p := ⟨g, 0, none⟩) hB _⟩)

/-- A Builder's text. -/
theorem string_any {w : World} {b o : Nat} {av bv : Value} {l : List UInt8} (hb : b < w.heap.size) (hc : w.cell? ⟨b, o + 1, none⟩ = some bv) (h : Buf w b o av bv l) :
    Calls Tryd.prog 65 #[.pointer (some ⟨b, o, none⟩)] w fun e w' => e = .returned (.string (bs l)) ∧ Below (b + 1) w w' := by
  rcases h.2.2 with ⟨rfl, h0⟩ | ⟨g, cap, cur, rfl, hbg, hg, hnc, hcm, hcs, htake⟩
  · have : l = [] := by simpa using h0
    subst this
    exact string_nil hc
  · by_cases hl : l = []
    · subst hl
      by_cases h0 : cap = 0
      · subst h0
        exact string_noroom hb hb hg hc
      · exact string_room h0 hc
    · exact string_some hl hbg hg hnc hcm (by omega) (by simpa using htake) hc
end Go.Proofs.YtokjbdofpdncdaaDoor
