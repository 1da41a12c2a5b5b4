/- 'FnClosureNumber' holds for every input: the row, out of its walk, and its card, tied to the program's text. Condition: the listed package-level variables read as listed when the call begins (the card ties that to the program's text). -/
import Derived.Test.YtoefegbbnaonoaaDoorCards
import Derived.Test.YtoefegbbnaonoaaDoorTie
import Derived.Test.YtoefegbbnaonoaaDoorArg
import Derived.Test.YtoefegbbnaonoaaDoorLawClosure
import Derived.WalkKit
import Derived.ProofKit
import Derived.OpenShut
import Derived.ShutString
import Derived.ChangeOld
import Derived.Below
import Derived.SizedLaws
import Derived.OpenVars
import Derived.LaidMore
import Derived.Deep.DeepHandedRow
import Derived.Deep.DeepWitnessRowRef
import Derived.Lay
import Derived.MakeChecks
namespace Go.Proofs.YtoefegbbnaonoaaDoor.fnClosureNumber
open Go.ChangeShapes Go.WideShapes Go.ChangeAt Go.RowKit
open Go.ChangeMaps (open_string shut_string)
set_option linter.unusedVariables false
theorem own : ownKnob Tryd.prog.godebug = none := by kernel_rfl
theorem laidOut : laidOutB Tryd.prog = true := by kernel_rfl
set_option maxRecDepth 100000 in
theorem contract (H : Type) (enc : TypeId × Value → H) (W : World) (base : Nat) (args : Array Value) (ds gs : List (DataW H)) (before : List MemPlace)
    (hval0 : ∀ (j : Nat) t v, Tryd.f8.params[j]? = some t → args[j]? = some v → Value.okWide Tryd.prog W .any base t v)
    (hW : DataW.Whole enc Tryd.prog Tryd.f8.params.toList Rows.fnClosureNumberSpec.vars false W args.toList ds gs before) (hL : laidMetH Tryd.prog Rows.fnClosureNumberRow.laid W) :
    Calls Tryd.prog 8 args W fun e W' => ∃ v, e = .returned v ∧ Rows.fnClosureNumberSpec.post enc Tryd.prog Tryd.f8 false true false false W args v W' := by
  have hfact := laid7 hL
  have hval : ∀ (j : Nat) t v, Tryd.f8.params[j]? = some t → args[j]? = some v → Value.okWide Tryd.prog W .any base t v := hval0
  have hW' := hW
  obtain ⟨p, q, hA0, hV, rfl, hfz, hnd⟩ := hW
  have hA : DataW.TrodAll enc Tryd.prog W 0 (fun _ => true) true Tryd.f8.params.toList args.toList ds p := hA0
  rw [Tryd.params8] at hA hval
  obtain ⟨v0, vs0, d0, ds0, p0, q0, hargs, rfl, rfl, h0, r0⟩ := trodAll_cons hA
  obtain ⟨rfl, rfl, rfl⟩ := trodAll_nil r0
  obtain rfl : args = #[v0] := by cases args; simp_all
  obtain ⟨gv1, gv2, rfl⟩ : ∃ gv1 gv2, gs = [gv1, gv2] := trodVars_two hV
  obtain ⟨a0, rfl, rfl, rfl, w0⟩ := open_int Tryd.underlying3 (hval 0 3 v0 rfl rfl) h0
  clear hA0 hval0
  refine (closure_walk W hfact a0 w0).mono fun e W' ⟨he, bel⟩ => ?_
  subst he
  exact ⟨_, rfl, _, _, _, [], _, _, hW', trodAll_mk1 (shut_bool Tryd.underlying4 _), (trodAll_cons_mk (shut_int Tryd.underlying3 w0) trodAll_mk0), (Below.trodVars laidOut bel (by kernel_rfl) hV), bel.frame _, fun h => by cases h⟩
def great : List String := ["unicode/utf8.first", "unicode/utf8.acceptRanges"]
noncomputable def mine : List Nat := (List.range 15).filter fun g => !(great.filterMap Tryd.prog.globalNamed).contains g
theorem laid_met (os : Os) : laidMet Tryd.prog Rows.fnClosureNumberRow.laid (((World.doorLaid Tryd.prog 600 os).layVars Tryd.prog (Rows.fnClosureNumberRow.laid.filter fun x => great.contains x.1)).forCall (fun _ _ => 0) ⟨#[], #[.int .i64 0], []⟩).memory :=
  laidMet_layVars (w0 := World.doorLaid Tryd.prog 600 os) great mine (by simp [World.memory, World.forCall, Input.heap]) (by kernel_rfl) (by kernel_rfl) (LaidIn.of_run mine 8 (by kernel_rfl) (by kernel_rfl) (by kernel_rfl) (by kernel_rfl))
set_option maxRecDepth 100000 in
theorem lifted (os : Os) (started : os.Started) (H : Type) (enc : TypeId × Value → H) (F : Stop.Interp) :
    ReturnsInHanded {} Tryd.checked os 8 .any ((OpenSpec.ofChange Rows.fnClosureNumberSpec).preRow enc Tryd.prog Tryd.f8 Rows.fnClosureNumberRow.domain false Rows.fnClosureNumberRow.laid) (((OpenSpec.ofChange Rows.fnClosureNumberSpec).at F).post enc Tryd.prog Tryd.f8 false true false false) := by
  obtain ⟨x, hx⟩ : ∃ x, DataW.whole enc Tryd.prog (((World.doorLaid Tryd.prog 600 os).layVars Tryd.prog (Rows.fnClosureNumberRow.laid.filter fun x => great.contains x.1)).forCall (fun _ _ => 0) ⟨#[], #[.int .i64 0], []⟩).memory Tryd.f8.params.toList Rows.fnClosureNumberSpec.vars false (#[.int .i64 0] : Array Value).toList 8 = some x := Option.isSome_iff_exists.1 (by kernel_rfl)
  refine returnsInHanded_of_row (C := Tryd.checked) (s := OpenSpec.ofChange Rows.fnClosureNumberSpec) own started (by kernel_rfl) Tryd.func8
    ⟨((World.doorLaid Tryd.prog 600 os).layVars Tryd.prog (Rows.fnClosureNumberRow.laid.filter fun x => great.contains x.1)), fun _ _ => 0, ⟨#[], #[.int .i64 0], []⟩, (World.layVars_os _ _ _).trans rfl, World.shaped_of_ZipB (by kernel_rfl) (by kernel_rfl), rfl, (Input.okWide_of_okWideB (by kernel_rfl)).2,
      OpenSpec.preRow_of_cond 8 hx (by kernel_rfl) (fun k hk => by cases hk) (by kernel_rfl) (by rw [MakeChecks.laidMetH_plain _ _ _ (by kernel_rfl)]; exact laid_met os), by
        simp only [Assume.holds]
        exact ⟨by simp, by simp, fun _ => Modest.zero, by simp, by simp⟩⟩ ?_
  intro W base args ds gs before hval hW _ _ _ hL _ _
  exact contract H enc W base args ds gs before hval hW hL
theorem said : Rows.FnClosureNumberSaid :=
  OpenClaim.holds_of_cond 8 Tryd.f8 rfl rfl rfl rfl rfl rfl rfl ⟨rfl, rfl, rfl, rfl, rfl⟩ rfl rfl rfl rfl rfl (by kernel_rfl) Tryd.func8 (by kernel_rfl)
    (of_decide_eq_true (by kernel_rfl)) (by unfold Func.isWrapper; first | (rw [if_pos (by decide +kernel)]; kernel_rfl) | (rw [if_neg (by decide +kernel)]; exact ⟨rfl, rfl⟩))
    (fun os started H enc _ F => by rw [OpenClaim.pre_eq_preRow]; exact lifted os started H enc F)
theorem plain (f : FuncId) (fn : Func) (hf : Tryd.pinned.checked.prog.funcNamed "loop.example/pub-g01453/laws.FnClosureNumber" = some f) (hfn : Tryd.pinned.checked.prog.funcs[f]? = some fn) :
    true = Tryd.pinned.checked.prog.looks [] ∧ ∀ (j : Nat) t, fn.params[j]? = some t → Tryd.pinned.checked.prog.wantsStandIn t = false := by
  obtain rfl : f = 8 := Option.some.inj ((show Tryd.prog.funcNamed "loop.example/pub-g01453/laws.FnClosureNumber" = some 8 by kernel_rfl).symm.trans hf) |>.symm
  obtain rfl : fn = Tryd.f8 := (Option.some.inj (Tryd.func8.symm.trans hfn)).symm
  refine ⟨by kernel_rfl, fun j t ht => ?_⟩
  rw [Tryd.params8] at ht
  have hm : t ∈ [3] := by simpa using Array.mem_of_getElem? ht
  have hall : ([3].all fun u => !Tryd.prog.wantsStandIn u) = true := by kernel_rfl
  exact (show Tryd.prog.wantsStandIn t = false by simpa using List.all_eq_true.1 hall t hm)
theorem card : Rows.FnClosureNumberCardSaid :=
  Claim7.holds_tied_plain_at .later [] _ _ _ _ said (fun _ h => by cases h) (by kernel_rfl) (fun _ h => by cases h) fnClosureNumber_row_tie rfl ⟨rfl, rfl⟩ (by kernel_rfl) rfl plain (by kernel_rfl)
end Go.Proofs.YtoefegbbnaonoaaDoor.fnClosureNumber
namespace Go.Proofs.YtoefegbbnaonoaaDoor
theorem fnClosureNumber_holds : Rows.FnClosureNumberCardSaid := fnClosureNumber.card
end Go.Proofs.YtoefegbbnaonoaaDoor
