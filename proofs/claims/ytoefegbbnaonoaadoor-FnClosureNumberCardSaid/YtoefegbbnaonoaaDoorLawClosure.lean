/- FnClosureNumber: the walk. -/
import Derived.Test.YtoefegbbnaonoaaDoorText
import Derived.Test.YtoefegbbnaonoaaDoorNames
import Derived.Test.YtoefegbbnaonoaaDoorLaidC
namespace Go.Proofs.YtoefegbbnaonoaaDoor
open Go.RowKit Go.Lib
set_option linter.unusedVariables false
set_option maxRecDepth 100000
attribute [local go_sem] bs_size bs_toList

/-- One part in a block of its own. -/
theorem oneAt (w : World) (p : Part) : PartsAt (w.alloc (.cells #[.int .u8 (p.space.toNat : Int), .string (bs p.name), .int .u64 (p.dis : Int)] 44)) w.heap.size [p] := by
  refine ⟨by simp, fun i hi => ?_⟩
  have : i = 0 := by simp at hi; omega
  subst this
  have h := Blk.new w 44 #[.int .u8 (p.space.toNat : Int), .string (bs p.name), .int .u64 (p.dis : Int)]
  exact ⟨h.cell 0, h.cell 1, h.cell 2⟩

theorem closure_walk (w : World) (hP : Pow w w.heap.size) (i : Int) (hi : (Lit.int .i64 i).wf = true) :
    Calls Tryd.prog 8 #[.int .i64 i] w fun e w' => e = .returned (.bool true) ∧ Below w.heap.size w w' := by
  have HA := idAt_any hi (n := 4611686018427387904) (by decide) (by unfold big62; decide)
  obtain ⟨x, hx⟩ : ∃ x : Nat, i % 4611686018427387904 = (x : Int) := ⟨(i % 4611686018427387904).toNat, by omega⟩
  rw [hx] at HA
  replace HA := Lib.hid HA
  have hx2 : x < 4611686018427387904 := by omega
  have hw : IntKind.u64.wrap (x : Int) = (x : Int) := by simp only [IntKind.wrap_u64]; omega
  have hpo : ∀ p ∈ [({ space := 67, name := [], dis := x } : Part)], PartOk p := by
    intro p hp
    rw [List.mem_singleton.1 hp]
    exact ⟨by show (isLow 67 || isUp 67) = true; decide, ⟨rfl, by simp⟩, by show x ≤ _; omega⟩
  have hc : NameOk [97] := ⟨by decide, by decide⟩
  have hA := oneAt w { space := 67, name := [], dis := x }
  have hBo : ∀ o, Below w.heap.size w (w.alloc o) := fun o => (Below.refl _ _).alloc (Nat.le_refl _) o
  have HS := Lib.hid (idSymbol_any (cap := 1) (hP.keepB (hBo _)) hc (cd := 0) (by decide) hpo (by simp) hA)
  have HT := Lib.hid (fun (W : World) (hW : Below (w.alloc (.cells #[.int .u8 (67 : Int), .string (bs []), .int .u64 (x : Int)] 44)).heap.size (w.alloc (.cells #[.int .u8 (67 : Int), .string (bs []), .int .u64 (x : Int)] 44)) W) => idText_any (cap := 1) ((hP.keepB (hBo _)).keepB hW) hc hpo (by simp) (hA.below hW))
  have hsay := names_say (crate := [97]) (cd := 0) (by decide) hc (by decide) _ hpo (by simp)
  have hl := symR_len hc (cd := 0) (by decide) _ true hpo
  rw [show ([({ space := 67, name := [], dis := x } : Part)]).reverse = [{ space := 67, name := [], dis := x }] from rfl] at HS HT
  generalize symR [97] 0 true [({ space := 67, name := [], dis := x } : Part)] = S at *
  generalize textR [97] [({ space := 67, name := [], dis := x } : Part)] = T at *
  have HI := Lib.hid (fun (W : World) (hW : Below w.heap.size w W) => idTold_yes (w := W) ((hP.keep hW (Nat.le_refl _)).up hW.size (Nat.le_refl _)) hsay)
  have ha : ∀ W, (Op.stringOp .add ⟨#[95, 82]⟩ (bs S)).run Tryd.prog W = .ok (.string (bs (95 :: 82 :: S))) W := add_bs [95, 82] _ (by simp at hl ⊢; omega)
  have HB := Lib.hid hBo
  clear hpo hc hA hBo hsay hl hP hi hx hx2
  go_enter Tryd.func8, Tryd.ntmps8
  go_wp2_with fail
  refine (HA.out _).mono ?_
  rintro e w1 ⟨rfl, rfl⟩
  go_wp2_with fail
  refine (HS.out).mono ?_
  rintro e w2 ⟨rfl, hb2⟩
  go_wp2_with fail
  refine (HT.out _ hb2).mono ?_
  rintro e w3 ⟨rfl, hb3⟩
  have hb := ((HB.out _).trans (hb2.mono (HB.out _).size)).trans (hb3.mono (Nat.le_trans (HB.out _).size hb2.size))
  go_wp2_with (go_at_call 13; refine (HI.out _ hb).mono ?_; rintro e w4 ⟨rfl, hb4⟩)
  go_ret
  exact ⟨rfl, hb.trans (hb4.mono hb.size)⟩
end Go.Proofs.YtoefegbbnaonoaaDoor
