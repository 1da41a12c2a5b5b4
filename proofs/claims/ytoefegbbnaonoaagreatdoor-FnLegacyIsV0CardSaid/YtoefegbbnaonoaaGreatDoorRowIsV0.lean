/- 'FnLegacyIsV0' holds for every input: the row, out of its walk, and its card, tied to the program's text. Condition: the listed package-level variables read as listed when the call begins (the card ties that to the program's text). -/
import Derived.Test.YtoefegbbnaonoaaGreatDoorCards
import Derived.Test.YtoefegbbnaonoaaGreatDoorTie
import Derived.Test.YtoefegbbnaonoaaGreatDoorArg
import Derived.Test.YtoefegbbnaonoaaGreatDoorLawIsV0
import Derived.WalkKit
import Derived.ProofKit
import Derived.OpenShut
import Derived.ShutString
import Derived.ChangeOld
import Derived.Below
import Derived.SizedLaws
import Derived.OpenVars
import Derived.LaidMore
import Derived.Deep.DeepHandedRow
import Derived.Deep.DeepWitnessRowRef
import Derived.Lay
import Derived.MakeChecks
namespace Go.Proofs.YtoefegbbnaonoaaGreatDoor.fnLegacyIsV0
open Go.ChangeShapes Go.WideShapes Go.ChangeAt Go.RowKit
open Go.ChangeMaps (open_string shut_string)
set_option linter.unusedVariables false
theorem own : ownKnob Tryz.prog.godebug = none := by kernel_rfl
theorem laidOut : laidOutB Tryz.prog = true := by kernel_rfl
set_option maxRecDepth 100000 in
theorem contract (H : Type) (enc : TypeId × Value → H) (W : World) (base : Nat) (args : Array Value) (ds gs : List (DataW H)) (before : List MemPlace)
    (hval0 : ∀ (j : Nat) t v, Tryz.f4.params[j]? = some t → args[j]? = some v → Value.okWide Tryz.prog W .any base t v)
    (hW : DataW.Whole enc Tryz.prog Tryz.f4.params.toList Rows.fnLegacyIsV0Spec.vars false W args.toList ds gs before) (hL : laidMetH Tryz.prog Rows.fnLegacyIsV0Row.laid W) :
    Calls Tryz.prog 4 args W fun e W' => ∃ v, e = .returned v ∧ Rows.fnLegacyIsV0Spec.post enc Tryz.prog Tryz.f4 false true false false W args v W' := by
  have hfact := laid7 hL
  have hval : ∀ (j : Nat) t v, Tryz.f4.params[j]? = some t → args[j]? = some v → Value.okWide Tryz.prog W .any base t v := hval0
  have hW' := hW
  obtain ⟨p, q, hA0, hV, rfl, hfz, hnd⟩ := hW
  have hA : DataW.TrodAll enc Tryz.prog W 0 (fun _ => true) true Tryz.f4.params.toList args.toList ds p := hA0
  rw [Tryz.params4] at hA hval
  obtain ⟨v0, vs0, d0, ds0, p0, q0, hargs, rfl, rfl, h0, r0⟩ := trodAll_cons hA
  obtain ⟨v1, vs1, d1, ds1, p1, q1, rfl, rfl, rfl, h1, r1⟩ := trodAll_cons r0
  obtain ⟨rfl, rfl, rfl⟩ := trodAll_nil r1
  obtain rfl : args = #[v0, v1] := by cases args; simp_all
  obtain ⟨gv1, gv2, rfl⟩ : ∃ gv1 gv2, gs = [gv1, gv2] := trodVars_two hV
  obtain ⟨a0, len0, cap0, rfl⟩ := okWide_slice Tryz.underlying23 (hval 0 23 v0 rfl rfl)
  have k0 := h0
  have lt0 : ∀ x ∈ p0, x.block < W.heap.size := by obtain ⟨m, hm⟩ := k0; exact DataW.trod_lt m _ _ _ hm
  obtain ⟨l0, w0, y0⟩ := names_open h0
  obtain ⟨a1, len1, cap1, rfl⟩ := okWide_slice Tryz.underlying22 (hval 1 22 v1 rfl rfl)
  have k1 := h1
  have lt1 : ∀ x ∈ p1, x.block < W.heap.size := by obtain ⟨m, hm⟩ := k1; exact DataW.trod_lt m _ _ _ hm
  obtain ⟨l1, w1, y1⟩ : ∃ l, Bytes W a1 len1 l ∧ (len1 ≤ maxLen ∧ len1 ≤ cap1) := by
    obtain ⟨fuel, hf⟩ := h1
    rcases open_ints Tryz.underlying22 Tryz.underlying5 (by kernel_rfl) hf with ⟨hcs, _⟩ | ⟨x, l, c, zs, hcs, _, hl, hm, hz, _, hcell, hwz⟩
    · simp [Value.cells] at hcs
      obtain ⟨rfl, rfl, rfl⟩ := hcs
      exact ⟨[], ⟨rfl, .inl rfl⟩, by simp [maxLen]⟩
    · simp [Value.cells] at hcs
      obtain ⟨rfl, rfl, rfl⟩ := hcs
      obtain ⟨bl, hbl⟩ := bytes_of_row (.inr ⟨_, rfl, hl, hm, by simpa using hz, hcell, hwz⟩)
      exact ⟨bl, hbl, Nat.le_trans hl hm, hl⟩
  clear hA0 hval0
  refine (legacyIsV0_walk W hfact a0 len0 cap0 l0 w0 y0 a1 len1 cap1 l1 w1 y1).mono fun e W' ⟨he, bel⟩ => ?_
  subst he
  exact ⟨_, rfl, _, _, _, [], _, _, hW', trodAll_mk1 (shut_bool Tryz.underlying4 _), (trodAll_cons_mk (Below.trod laidOut (by kernel_rfl) (of_decide_eq_true (by kernel_rfl)) k0 bel lt0) (trodAll_cons_mk (Below.trod laidOut (by kernel_rfl) (of_decide_eq_true (by kernel_rfl)) k1 bel lt1) trodAll_mk0)), (Below.trodVars laidOut bel (by kernel_rfl) hV), bel.frame _, fun h => by cases h⟩
def great : List String := ["unicode/utf8.first", "unicode/utf8.acceptRanges"]
noncomputable def mine : List Nat := (List.range 15).filter fun g => !(great.filterMap Tryz.prog.globalNamed).contains g
theorem laid_met (os : Os) : laidMet Tryz.prog Rows.fnLegacyIsV0Row.laid (((World.doorLaid Tryz.prog 600 os).layVars Tryz.prog (Rows.fnLegacyIsV0Row.laid.filter fun x => great.contains x.1)).forCall (fun _ _ => 0) ⟨#[], #[.slice none 0 0, .slice none 0 0], []⟩).memory :=
  laidMet_layVars (w0 := World.doorLaid Tryz.prog 600 os) great mine (by simp [World.memory, World.forCall, Input.heap]) (by kernel_rfl) (by kernel_rfl) (LaidIn.of_run mine 8 (by kernel_rfl) (by kernel_rfl) (by kernel_rfl) (by kernel_rfl))
set_option maxRecDepth 100000 in
theorem lifted (os : Os) (started : os.Started) (H : Type) (enc : TypeId × Value → H) (F : Stop.Interp) :
    ReturnsInHanded {} Tryz.checked os 4 .any ((OpenSpec.ofChange Rows.fnLegacyIsV0Spec).preRow enc Tryz.prog Tryz.f4 Rows.fnLegacyIsV0Row.domain false Rows.fnLegacyIsV0Row.laid) (((OpenSpec.ofChange Rows.fnLegacyIsV0Spec).at F).post enc Tryz.prog Tryz.f4 false true false false) := by
  obtain ⟨x, hx⟩ : ∃ x, DataW.whole enc Tryz.prog (((World.doorLaid Tryz.prog 600 os).layVars Tryz.prog (Rows.fnLegacyIsV0Row.laid.filter fun x => great.contains x.1)).forCall (fun _ _ => 0) ⟨#[], #[.slice none 0 0, .slice none 0 0], []⟩).memory Tryz.f4.params.toList Rows.fnLegacyIsV0Spec.vars false (#[.slice none 0 0, .slice none 0 0] : Array Value).toList 8 = some x := Option.isSome_iff_exists.1 (by kernel_rfl)
  refine returnsInHanded_of_row (C := Tryz.checked) (s := OpenSpec.ofChange Rows.fnLegacyIsV0Spec) own started (by kernel_rfl) Tryz.func4
    ⟨((World.doorLaid Tryz.prog 600 os).layVars Tryz.prog (Rows.fnLegacyIsV0Row.laid.filter fun x => great.contains x.1)), fun _ _ => 0, ⟨#[], #[.slice none 0 0, .slice none 0 0], []⟩, (World.layVars_os _ _ _).trans rfl, World.shaped_of_ZipB (by kernel_rfl) (by kernel_rfl), rfl, (Input.okWide_of_okWideB (by kernel_rfl)).2,
      OpenSpec.preRow_of_cond 8 hx (by kernel_rfl) (fun k hk => by cases hk) (by kernel_rfl) (by rw [MakeChecks.laidMetH_plain _ _ _ (by kernel_rfl)]; exact laid_met os), by
        simp only [Assume.holds]
        exact ⟨by simp, by simp, fun _ => Modest.zero, by simp, by simp⟩⟩ ?_
  intro W base args ds gs before hval hW _ _ _ hL _ _
  exact contract H enc W base args ds gs before hval hW hL
theorem said : Rows.FnLegacyIsV0Said :=
  OpenClaim.holds_of_cond 4 Tryz.f4 rfl rfl rfl rfl rfl rfl rfl ⟨rfl, rfl, rfl, rfl, rfl⟩ rfl rfl rfl rfl rfl (by kernel_rfl) Tryz.func4 (by kernel_rfl)
    (of_decide_eq_true (by kernel_rfl)) (by unfold Func.isWrapper; first | (rw [if_pos (by decide +kernel)]; kernel_rfl) | (rw [if_neg (by decide +kernel)]; exact ⟨rfl, rfl⟩))
    (fun os started H enc _ F => by rw [OpenClaim.pre_eq_preRow]; exact lifted os started H enc F)
theorem plain (f : FuncId) (fn : Func) (hf : Tryz.pinned.checked.prog.funcNamed "loop.example/pub-g01453/laws.FnLegacyIsV0" = some f) (hfn : Tryz.pinned.checked.prog.funcs[f]? = some fn) :
    true = Tryz.pinned.checked.prog.looks [] ∧ ∀ (j : Nat) t, fn.params[j]? = some t → Tryz.pinned.checked.prog.wantsStandIn t = false := by
  obtain rfl : f = 4 := Option.some.inj ((show Tryz.prog.funcNamed "loop.example/pub-g01453/laws.FnLegacyIsV0" = some 4 by kernel_rfl).symm.trans hf) |>.symm
  obtain rfl : fn = Tryz.f4 := (Option.some.inj (Tryz.func4.symm.trans hfn)).symm
  refine ⟨by kernel_rfl, fun j t ht => ?_⟩
  rw [Tryz.params4] at ht
  have hm : t ∈ [23, 22] := by simpa using Array.mem_of_getElem? ht
  have hall : ([23, 22].all fun u => !Tryz.prog.wantsStandIn u) = true := by kernel_rfl
  exact (show Tryz.prog.wantsStandIn t = false by simpa using List.all_eq_true.1 hall t hm)
theorem card : Rows.FnLegacyIsV0CardSaid :=
  Claim7.holds_tied_plain_at .later [] _ _ _ _ said (fun _ h => by cases h) (by kernel_rfl) (fun _ h => by cases h) fnLegacyIsV0_row_tie rfl ⟨rfl, rfl⟩ (by kernel_rfl) rfl plain (by kernel_rfl)
end Go.Proofs.YtoefegbbnaonoaaGreatDoor.fnLegacyIsV0
namespace Go.Proofs.YtoefegbbnaonoaaGreatDoor
theorem fnLegacyIsV0_holds : Rows.FnLegacyIsV0CardSaid := fnLegacyIsV0.card
end Go.Proofs.YtoefegbbnaonoaaGreatDoor
