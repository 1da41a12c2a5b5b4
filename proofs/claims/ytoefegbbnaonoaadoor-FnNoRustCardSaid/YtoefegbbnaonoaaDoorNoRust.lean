/- FnNoRust: the walk. -/
import Derived.Test.YtoefegbbnaonoaaDoorOpts
import Derived.Test.YtoefegbbnaonoaaDoorNames
import Derived.Test.YtoefegbbnaonoaaDoorSpecB62
import Derived.Test.YtoefegbbnaonoaaDoorLaidC
import Derived.LaidEql
namespace Go.Proofs.YtoefegbbnaonoaaDoor
open Go.RowKit Go.Lib Go.WideShapes
set_option linter.unusedVariables false
set_option maxRecDepth 100000
attribute [local go_sem] bs_size bs_toList

theorem rts_norust {w : World} {F : List UInt8} {A : Option Addr} {n c : Nat} {a : Addr} (hpre : Lib.hasPrefix F [95, 82] = false) (hg : 0 < w.heap.size) (hc : w.cell? ⟨0, 0, none⟩ = some (.iface 132 (.pointer (some a)))) :
    Calls Tryd.prog 33 #[.string (bs F), .slice A n c] w fun e w' => e = .returned (.tuple #[.string (bs []), .iface 132 (.pointer (some a))]) ∧ Below w.heap.size w w' := by
  have HP := Lib.hid (prefix_any hpre)
  have hb0 : Below w.heap.size w ((w.alloc (.cells #[.string ⟨#[]⟩] 9)).alloc (.cells #[.nilIface] 50)) := ((Below.refl _ _).alloc (Nat.le_refl _) _).alloc (by simp) _
  have hc0 := (hb0.cell (p := ⟨0, 0, none⟩) hg).trans hc
  have HR := Lib.hid (show Res2 ((w.alloc (.cells #[.string ⟨#[]⟩] 9)).alloc (.cells #[.nilIface] 50)) w.heap.size (bs []) .nilIface from ⟨(Blk.new _ _ _).alloc _, (Blk.new _ _ _).at2 (by simp only [World.size_alloc])⟩)
  replace hb0 := Lib.hid hb0
  clear hpre hc
  have n0 : ¬ w.heap.size = 0 := by omega
  have n1 : ¬ w.heap.size + 1 = 0 := by omega
  have m0 : ¬ 0 = w.heap.size := by omega
  have m1 : ¬ 0 = w.heap.size + 1 := by omega
  go_enter_defers Tryd.func33, Tryd.ntmps33
  go_wp2_with (go_at_call 41; refine (HP.out _).mono ?_; rintro e w1 ⟨rfl, rfl⟩)
  go_region
  all_goals go_wp2
  all_goals
    have c0 : (((w.alloc (.cells #[.string ⟨#[]⟩] 9)).alloc (.cells #[.iface 132 (.pointer (some a))] 50)).drew).cell? ⟨w.heap.size, 0, none⟩ = some (.string ⟨#[]⟩) := ((Blk.new _ _ _).alloc _).cell 0
    have c1 : (((w.alloc (.cells #[.string ⟨#[]⟩] 9)).alloc (.cells #[.iface 132 (.pointer (some a))] 50)).drew).cell? ⟨w.heap.size + 1, 0, none⟩ = some (.iface 132 (.pointer (some a))) := ((Blk.new _ _ _).at2 (by simp only [World.size_alloc])).cell 0
    have hbb : Below w.heap.size w (((w.alloc (.cells #[.string ⟨#[]⟩] 9)).alloc (.cells #[.iface 132 (.pointer (some a))] 50)).drew) := (((Below.refl _ _).alloc (Nat.le_refl _) _).alloc (by simp) _).drew
    simp only [bodyPostD]
    refine leaves_res2 ⟨rfl, rfl⟩ c0 c1 ⟨rfl, hbb⟩

theorem fault_same {w : World} {a : Addr} (hc : w.cell? ⟨0, 0, none⟩ = some (.iface 132 (.pointer (some a)))) :
    Calls Tryd.prog 27 #[.iface 132 (.pointer (some a))] w fun e w' => e = .returned (.int .i64 1) ∧ w = w' := by
  obtain ⟨i0, hi, hz0, hz1, hz2⟩ := info_parts (show (Tryd.prog.info? 146).map (fun i => (i.zero, i.size, i.bytes)) = some (some (.agg #[.string ByteArray.empty]), 1, 16) by kernel_rfl)
  obtain ⟨j0, hj, hcomp⟩ : ∃ j, Tryd.prog.info? 132 = some j ∧ j.comparable = true := by
    have h : (Tryd.prog.info? 132).map (·.comparable) = some true := by kernel_rfl
    rw [Option.map_eq_some_iff] at h
    exact h
  have he : ∀ W, (binOp .eql 50 (.iface 132 (.pointer (some a))) (.iface 132 (.pointer (some a)))).run Tryd.prog W = .ok (.bool true) W := fun W => run_eql_iface_ptr_same W a Tryd.underlying50 Tryd.underlying132 hj hcomp hi
  clear hi hj hz0 hz1 hz2 hcomp
  go_enter Tryd.func27, Tryd.ntmps27
  go_wp2
  go_ret
  exact ⟨rfl, rfl⟩

theorem rust_norust {w : World} {F : List UInt8} {A : Option Addr} {n c : Nat} {a : Addr} (hpre : Lib.hasPrefix F [95, 82] = false) (hg : 0 < w.heap.size) (hc : w.cell? ⟨0, 0, none⟩ = some (.iface 132 (.pointer (some a)))) :
    Calls Tryd.prog 25 #[.string (bs F), .slice A n c] w fun e w' => e = .returned (.tuple #[.string (bs []), .iface 132 (.pointer (some a))]) ∧ Below w.heap.size w w' := by
  have H := Lib.hid (rts_norust (A := A) (n := n) (c := c) hpre hg hc)
  clear hpre hg hc
  go_enter Tryd.func25, Tryd.ntmps25
  go_wp2_with (go_at_call 33; refine (H.out).mono ?_; rintro e w2 ⟨rfl, hb2⟩)
  go_ret2
  exact ⟨rfl, hb2⟩
theorem told_norust {w : World} {F : List UInt8} (b : Nat → Bool) (p : Nat) (hp : p ≤ 30) (hN : NotM w w.heap.size) (hpre : Lib.hasPrefix F [95, 82] = false) :
    Calls Tryd.prog 14 #[.string (bs F), .agg #[.bool (b 0), .bool (b 1), .bool (b 2), .bool (b 3), .bool (b 4), .bool (b 5), .bool (b 6), .int .i64 (p : Int)]] w fun e w' => e = .returned (.tuple #[.string (bs []), .int .i64 1]) ∧ Below w.heap.size w w' := by
  obtain ⟨hg, _, a, hc⟩ := hN
  have HR := Lib.hid (fun (W : World) (hb : Below w.heap.size w W) (A : Option Addr) (n c : Nat) => rust_norust (w := W) (A := A) (n := n) (c := c) hpre (Nat.lt_of_lt_of_le hg hb.size) ((hb.cell (p := ⟨0, 0, none⟩) hg).trans hc))
  have HF := Lib.hid (fun (W : World) (hb : Below w.heap.size w W) => fault_same (w := W) ((hb.cell (p := ⟨0, 0, none⟩) hg).trans hc))
  have HB := Lib.hid (fun o => (show Below w.heap.size w (w.alloc o) from (Below.refl _ _).alloc (Nat.le_refl _) o))
  have HL := Lib.hid (fun W => list_any W b p hp)
  clear hpre hc hg
  go_enter Tryd.func14, Tryd.ntmps14
  go_wp2_with (first
    | (go_at_call 27; refine (HF.out _ hb2).mono ?_; rintro e w3 ⟨rfl, rfl⟩)
    | (go_at_call 25; refine (HR.out _ hb _ _ _).mono ?_; rintro e w2 ⟨rfl, hb2⟩; replace hb2 := hb.trans (hb2.mono hb.size))
    | (go_at_call 26; refine (HL.out _).mono ?_; rintro e w1 ⟨⟨A, n, c, rfl⟩, hb1⟩; have hb := (HB.out _).trans (hb1.mono (HB.out _).size)))
  go_ret2
  exact ⟨rfl, hb2⟩

theorem begins_any (F : List UInt8) (w : World) :
    Calls Tryd.prog 12 #[.string (bs F), .string ⟨#[95, 82]⟩] w fun e w' => e = .returned (.bool (Lib.hasPrefix F [95, 82])) ∧ w = w' := by
  by_cases h2 : 2 ≤ F.length
  · have hx : (bs F).extract 0 2 = bs (F.take 2) := by rw [bs_extract, List.drop_zero, Nat.sub_zero]
    have hq : (F.take 2 == [95, 82]) = Lib.hasPrefix F [95, 82] := by
      match F, h2 with
      | a :: b :: r, _ =>
        by_cases ha : a = 95
        · by_cases hb : b = 82
          · subst ha; subst hb; simp [Lib.hasPrefix, List.isPrefixOf]
          · have e1 : (b == 82) = false := by simpa using hb
            have e2 : ((82 : UInt8) == b) = false := by simpa using fun h : (82 : UInt8) = b => hb h.symm
            simp [Lib.hasPrefix, List.isPrefixOf, e1, e2]
        · have e1 : (a == 95) = false := by simpa using ha
          have e2 : ((95 : UInt8) == a) = false := by simpa using fun h : (95 : UInt8) = a => ha h.symm
          simp [Lib.hasPrefix, List.isPrefixOf, e1, e2]
    have h2' : (2 : Int) ≤ (F.length : Int) := by omega
    generalize F.take 2 = G at hx hq
    go_enter Tryd.func12, Tryd.ntmps12
    go_wp2_with fail
    go_ret
    exact ⟨rfl, rfl⟩
  · have hq : Lib.hasPrefix F [95, 82] = false := by
      match F, h2 with
      | [], _ => rfl
      | [a], _ => simp [Lib.hasPrefix, List.isPrefixOf]
      | a :: b :: r, h => simp at h
    have h2' : ¬ (2 : Int) ≤ (F.length : Int) := by omega
    replace hq := Lib.hid hq
    go_enter Tryd.func12, Tryd.ntmps12
    go_wp2_with fail
    go_ret
    exact ⟨ret_bool' hq.out.symm, rfl⟩

set_option maxHeartbeats 2000000 in
theorem noRust_walk (w : World) (hL : Pow w w.heap.size ∧ NotM w w.heap.size) (A : Option Addr) (n cap : Nat) (l : List UInt8) (hA : Bytes w A n l) (hn : n ≤ maxLen ∧ n ≤ cap) (b : Nat → Bool) (z : Int) (hz : (Lit.int .i64 z).wf = true) :
    Calls Tryd.prog 4 #[.slice A n cap, .agg #[.bool (b 0), .bool (b 1), .bool (b 2), .bool (b 3), .bool (b 4), .bool (b 5), .bool (b 6), .int .i64 z]] w fun e w' => e = .returned (.bool true) ∧ Below w.heap.size w w' := by
  have hB : ∀ o, Below w.heap.size w (w.alloc o) := fun o => (Below.refl _ _).alloc (Nat.le_refl _) o
  have b1 := hn.1
  unfold maxLen at b1
  by_cases hs : 2147483647 < n
  · have HB := Lib.hid hB
    clear hB hA hL
    go_enter Tryd.func4, Tryd.ntmps4
    go_wp2_with fail
    go_ret
    exact ⟨rfl, HB.out _⟩
  · have hcv := fun o => Bytes.convert (w := w.alloc o) (P := Tryd.prog) (hA.below (hB o)) cap Tryd.underlying27 Tryd.underlying5 Tryd.underlying9
    have HA := Lib.hid (begins_any l)
    have HI := Lib.hid (fun W => idAt_any hz (n := 31) (by decide) (by unfold big62; decide) W)
    obtain ⟨x, hx⟩ : ∃ x : Nat, z % 31 = (x : Int) := ⟨(z % 31).toNat, by omega⟩
    have hx2 : x ≤ 30 := by omega
    rw [hx] at HI
    have HB := Lib.hid hB
    cases hpre : Lib.hasPrefix l [95, 82] with
    | true =>
      rw [hpre] at HA
      have hc : NameOk [97] := ⟨by decide, by decide⟩
      have hsay := names_say (crate := [97]) (cd := 0) (by decide) hc (by decide) [] (fun _ h => by cases h) (by simp)
      rw [show (95 :: 82 :: symR [97] 0 true []) = [95, 82, 67, 49, 97] by decide +kernel, show textR [97] [] = [97] from rfl] at hsay
      have HT := Lib.hid (fun (W : World) (hW : Below w.heap.size w W) => idTold_yes (w := W) ((hL.1.keep hW (Nat.le_refl _)).up hW.size (Nat.le_refl _)) hsay)
      clear hB hA hL hx hsay hpre
      go_enter Tryd.func4, Tryd.ntmps4
      go_wp2_with (first
        | (go_at_call 12; refine (HA.out _).mono ?_; rintro e w1 ⟨rfl, rfl⟩)
        | (go_at_call 13; refine (HT.out _ (HB.out _)).mono ?_; rintro e w2 ⟨rfl, hb2⟩))
      go_ret
      exact ⟨rfl, (HB.out _).trans (hb2.mono (HB.out _).size)⟩
    | false =>
      rw [hpre] at HA
      have HT := Lib.hid (fun (W : World) (hW : Below w.heap.size w W) => told_norust (w := W) b x hx2 ⟨Nat.lt_of_lt_of_le hL.2.1 hW.size, Nat.le_refl _, (hL.2.keep hW (Nat.le_refl _)).2.2⟩ hpre)
      clear hB hA hL hx hpre
      go_enter Tryd.func4, Tryd.ntmps4
      go_wp2_with (first
        | (go_at_call 12; refine (HA.out _).mono ?_; rintro e w1 ⟨rfl, rfl⟩)
        | (go_at_call 10; refine (HI.out _).mono ?_; rintro e w1 ⟨rfl, rfl⟩)
        | (go_at_call 14; refine (HT.out _ (HB.out _)).mono ?_; rintro e w2 ⟨rfl, hb2⟩))
      go_ret
      exact ⟨rfl, (HB.out _).trans (hb2.mono (HB.out _).size)⟩
end Go.Proofs.YtoefegbbnaonoaaDoor
