/- strconv.FormatUint at base 10: the walk over the library's text. -/
import Derived.Test.YtokjbdofpdncdaaDoorItoa
import Derived.Lib.AppendIntMem
import Derived.BigCall
import Derived.BigGuard
import Derived.Lib.Walk
namespace Go.Proofs.YtokjbdofpdncdaaDoor
open Go.RowKit Go.Lib Go.Sort
set_option linter.unusedVariables false
set_option maxRecDepth 100000

theorem fin_zero (w : World) (o : Obj) (dk : Array UInt8) (k : Nat) : ∃ os, (putRow (fun (b : UInt8) => Value.int .u8 (b.toNat : Int)) (w.alloc o) w.heap.size 0 dk).drewN k = grow (w.drewN k) os := by
  rw [alloc_eq_grow]
  obtain ⟨os', _, e⟩ := putRow_grow_new (fun (b : UInt8) => Value.int .u8 (b.toNat : Int)) w #[o] w.heap.size 0 dk (Nat.le_refl _)
  exact ⟨os', by rw [e]; rfl⟩

theorem fmtSmall (n : Nat) (h : n < 100) (w : World) :
    Calls Tryd.prog 117 #[.int .u64 (n : Int), .int .i64 10] w fun e w' => e = .returned (.string (bs (decDigits n))) ∧ Below w.heap.size w w' := by
  have h1 : (n : Int) < 100 := by omega
  have hw : wrap64 (n : Int) = (n : Int) := by unfold wrap64; omega
  go_enter Tryd.func117, Tryd.ntmps117
  go_wp2_with (go_at_call 86; refine (Tryd.internal_strconv_small n h _).mono ?_; rintro e w' ⟨rfl, rfl⟩)
  go_ret
  exact ⟨rfl, Below.refl _ _⟩

set_option maxHeartbeats 3200000 in
theorem fmtBig {w : World} {B : Nat} (hp : Pow w B) (u : Nat) (hu : 100 ≤ u) (hu64 : u < 18446744073709551616) :
    Calls Tryd.prog 117 #[.int .u64 (u : Int), .int .i64 10] w fun e w' => e = .returned (.string (bs (decDigits u))) ∧ Below w.heap.size w w' := by
  have htab := hp.2.2
  have hu1 : 1 ≤ u := by omega
  have hnd20 : Lib.nDigits u ≤ 20 := by have := Lib.numDigits_eq u hu1 hu64; split at this <;> omega
  have hb3 : Lib.nDigits u ≤ 24 := by omega
  have hal : Tryd.prog.arrayLen 129 = 24 := by kernel_rfl
  have hsl : ∀ W, (Instr.sliceAt 129 (.pointer (some ⟨w.heap.size, 0, none⟩)) none (some (.int .i64 (Lib.nDigits u : Int))) none).run Tryd.prog W = .ok (.slice (some ⟨w.heap.size, 0, none⟩) (Lib.nDigits u) 24) W := fun W => by
    rw [run_sliceAt_array_h W 129 ⟨w.heap.size, 0, none⟩ (by kernel_rfl) .i64 (Lib.nDigits u : Int) (by omega) (by rw [hal]; omega)]
    go_simp
  have hH0 := Lib.holds_zero0 w 129 (Lib.nDigits u) (by omega)
  have hfmt := Tryd.internal_strconv_formatBase10 w.heap.size 0 24 u (Array.replicate (Lib.nDigits u) 0) (w.alloc (.cells Lib.zeros24 129)) hH0 (by rw [Array.size_replicate]; exact Lib.lt_pow_nDigits u) hu64 (by rw [Array.size_replicate]; omega)
  rw [Array.size_replicate] at hfmt
  have HH0 := Lib.hid hH0
  have HN := Lib.hid (Tryd.internal_strconv_numDigits u hu1 hu64 (w.alloc (.cells Lib.zeros24 129)) (Lib.tabIs_alloc htab _))
  have h1 : ¬ (u : Int) < 100 := by omega
  clear hH0 hal hp hu htab hu64 hu1
  go_enter Tryd.func117, Tryd.ntmps117
  go_wp2_with (go_at_call 87; refine (HN.out).mono ?_; rintro e w' ⟨rfl, rfl⟩)
  go_at_call 88
  refine hfmt.mono ?_
  rintro e w' ⟨rfl, k, v', dk, rfl, hF⟩
  have hcv : (convert 23 9 (.slice (some ⟨w.heap.size, 0, none⟩) (Lib.nDigits u) 24)).run Tryd.prog ((putRow (fun (b : UInt8) => Value.int .u8 (b.toNat : Int)) (w.alloc (.cells Lib.zeros24 129)) w.heap.size 0 dk).drewN k) = .ok (.string ⟨(Lib.decDigits u).toArray⟩) ((putRow (fun (b : UInt8) => Value.int .u8 (b.toNat : Int)) (w.alloc (.cells Lib.zeros24 129)) w.heap.size 0 dk).drewN k) := by
    have h := run_convert_bytes_back (P := Tryd.prog) ((putRow (fun (b : UInt8) => Value.int .u8 (b.toNat : Int)) (w.alloc (.cells Lib.zeros24 129)) w.heap.size 0 dk).drewN k) 23 9 5 ⟨w.heap.size, 0, none⟩ 24 (Lib.decDigits u) Tryd.underlying23 Tryd.underlying5 Tryd.underlying9 (fun j hj => by
      rw [Lib.row_is_numeral hF j hj, Lib.add_plain, World.cell?_drewN]
      exact cell?_putRow (fun (b : UInt8) => Value.int .u8 (b.toNat : Int)) _ w.heap.size 0 _ dk HH0.out (by rw [hF.size, Array.size_replicate]) j (by rw [hF.size]; rw [Lib.decDigits_length] at hj; exact hj))
    rw [Lib.decDigits_length] at h
    exact h
  go_wp2
  go_ret
  obtain ⟨os, eo⟩ := fin_zero w (.cells Lib.zeros24 129) dk k
  exact ⟨rfl, below_grow (Nat.le_refl _) eo⟩

theorem fmtUint_any {w : World} {B : Nat} (hp : Pow w B) (u : Nat) (hu64 : u < 18446744073709551616) :
    Calls Tryd.prog 96 #[.int .u64 (u : Int), .int .i64 10] w fun e w' => e = .returned (.string (bs (decDigits u))) ∧ Below w.heap.size w w' := by
  have H := Lib.hid (show Calls Tryd.prog 117 #[.int .u64 (u : Int), .int .i64 10] w fun e w' => e = .returned (.string (bs (decDigits u))) ∧ Below w.heap.size w w' by
    by_cases h : u < 100
    · exact fmtSmall u h w
    · exact fmtBig hp u (by omega) hu64)
  clear hp hu64
  go_enter Tryd.func96, Tryd.ntmps96
  go_wp2_with (go_at_call 117; refine (H.out).mono ?_; rintro e w2 ⟨rfl, hb2⟩)
  go_ret
  exact ⟨rfl, hb2⟩
end Go.Proofs.YtokjbdofpdncdaaDoor
