/- 'FnConstantMade' holds for every input: the row, out of its walk, and its card, tied to the program's text. Condition: the listed package-level variables read as listed when the call begins (the card ties that to the program's text). -/
import Derived.Test.YtokjbdofpdncdaaDoorCards
import Derived.Test.YtokjbdofpdncdaaDoorTie
import Derived.Test.YtokjbdofpdncdaaDoorArg
import Derived.Test.YtokjbdofpdncdaaDoorLawMade
import Derived.WalkKit
import Derived.ProofKit
import Derived.OpenShut
import Derived.ShutString
import Derived.ChangeOld
import Derived.Below
import Derived.SizedLaws
import Derived.OpenVars
import Derived.LaidMore
import Derived.Deep.DeepHandedRow
import Derived.Deep.DeepWitnessRowRef
import Derived.Lay
import Derived.MakeChecks
namespace Go.Proofs.YtokjbdofpdncdaaDoor.fnConstantMade
open Go.ChangeShapes Go.WideShapes Go.ChangeAt Go.RowKit
open Go.ChangeMaps (open_string shut_string)
set_option linter.unusedVariables false
theorem own : ownKnob Tryd.prog.godebug = none := by kernel_rfl
theorem laidOut : laidOutB Tryd.prog = true := by kernel_rfl
set_option maxRecDepth 100000 in
theorem contract (H : Type) (enc : TypeId × Value → H) (W : World) (base : Nat) (args : Array Value) (ds gs : List (DataW H)) (before : List MemPlace)
    (hval0 : ∀ (j : Nat) t v, Tryd.f4.params[j]? = some t → args[j]? = some v → Value.okWide Tryd.prog W .any base t v)
    (hW : DataW.Whole enc Tryd.prog Tryd.f4.params.toList Rows.fnConstantMadeSpec.vars false W args.toList ds gs before) (hL : laidMetH Tryd.prog Rows.fnConstantMadeRow.laid W) :
    Calls Tryd.prog 4 args W fun e W' => ∃ v, e = .returned v ∧ Rows.fnConstantMadeSpec.post enc Tryd.prog Tryd.f4 false true false false W args v W' := by
  have hfact := pow_laid5 hL
  have hval : ∀ (j : Nat) t v, Tryd.f4.params[j]? = some t → args[j]? = some v → Value.okWide Tryd.prog W .any base t v := hval0
  have hW' := hW
  obtain ⟨p, q, hA0, hV, rfl, hfz, hnd⟩ := hW
  have hA : DataW.TrodAll enc Tryd.prog W 0 (fun _ => true) true Tryd.f4.params.toList args.toList ds p := hA0
  rw [Tryd.params4] at hA hval
  obtain ⟨v0, vs0, d0, ds0, p0, q0, hargs, rfl, rfl, h0, r0⟩ := trodAll_cons hA
  obtain ⟨v1, vs1, d1, ds1, p1, q1, rfl, rfl, rfl, h1, r1⟩ := trodAll_cons r0
  obtain ⟨rfl, rfl, rfl⟩ := trodAll_nil r1
  obtain rfl : args = #[v0, v1] := by cases args; simp_all
  obtain ⟨rfl, rfl⟩ := trodVars_none hV
  obtain ⟨rk0, rc0, rm0, rn0, rf0, rA0, rkn0, rkc0, rfl, w0⟩ := rust_open (hval 0 38 v0 rfl rfl)
  have k0 := h0
  have lt0 : ∀ x ∈ p0, x.block < W.heap.size := by obtain ⟨m, hm⟩ := k0; exact DataW.trod_lt m _ _ _ hm
  obtain ⟨a1, rfl, rfl, rfl, y1⟩ := open_string Tryd.underlying9 (hval 1 9 v1 rfl rfl) h1
  obtain ⟨l1, rfl⟩ : ∃ l, a1 = bs l := ⟨_, (bs_of a1).symm⟩
  clear hA0 hval0
  refine (constMade_walk W hfact rk0 rc0 rm0 rn0 rf0 rA0 rkn0 rkc0 w0 l1 (by simpa [bs_size] using y1)).mono fun e W' ⟨he, bel⟩ => ?_
  subst he
  exact ⟨_, rfl, _, _, _, [], _, [], hW', trodAll_mk1 (shut_bool Tryd.underlying4 _), (trodAll_cons_mk (Below.trod laidOut (by kernel_rfl) (of_decide_eq_true (by kernel_rfl)) k0 bel lt0) (trodAll_cons_mk (shut_string Tryd.underlying9 y1) trodAll_mk0)), rfl, bel.frame _, fun h => by cases h⟩
theorem laid_met (os : Os) : laidMet Tryd.prog Rows.fnConstantMadeRow.laid ((World.laidAll Tryd.prog os Rows.fnConstantMadeRow.laid).forCall (fun _ _ => 0) ⟨#[], #[.agg #[.int .i64 0, .int .u8 0, .string ByteArray.empty, .int .u64 0, .bool false, .slice none 0 0], .string ByteArray.empty], []⟩).memory :=
  laidMet_laidAll _ (by kernel_rfl) (by kernel_rfl)
set_option maxRecDepth 100000 in
theorem lifted (os : Os) (started : os.Started) (H : Type) (enc : TypeId × Value → H) (F : Stop.Interp) :
    ReturnsInHanded {} Tryd.checked os 4 .any ((OpenSpec.ofChange Rows.fnConstantMadeSpec).preRow enc Tryd.prog Tryd.f4 Rows.fnConstantMadeRow.domain false Rows.fnConstantMadeRow.laid) (((OpenSpec.ofChange Rows.fnConstantMadeSpec).at F).post enc Tryd.prog Tryd.f4 false true false false) := by
  obtain ⟨x, hx⟩ : ∃ x, DataW.whole enc Tryd.prog ((World.laidAll Tryd.prog os Rows.fnConstantMadeRow.laid).forCall (fun _ _ => 0) ⟨#[], #[.agg #[.int .i64 0, .int .u8 0, .string ByteArray.empty, .int .u64 0, .bool false, .slice none 0 0], .string ByteArray.empty], []⟩).memory Tryd.f4.params.toList Rows.fnConstantMadeSpec.vars false (#[.agg #[.int .i64 0, .int .u8 0, .string ByteArray.empty, .int .u64 0, .bool false, .slice none 0 0], .string ByteArray.empty] : Array Value).toList 8 = some x := Option.isSome_iff_exists.1 (by kernel_rfl)
  refine returnsInHanded_of_row (C := Tryd.checked) (s := OpenSpec.ofChange Rows.fnConstantMadeSpec) own started (by kernel_rfl) Tryd.func4
    ⟨(World.laidAll Tryd.prog os Rows.fnConstantMadeRow.laid), fun _ _ => 0, ⟨#[], #[.agg #[.int .i64 0, .int .u8 0, .string ByteArray.empty, .int .u64 0, .bool false, .slice none 0 0], .string ByteArray.empty], []⟩, World.laidAll_os _ _ _, World.shaped_of_ZipB (by kernel_rfl) (by kernel_rfl), rfl, (Input.okWide_of_okWideB (by kernel_rfl)).2,
      OpenSpec.preRow_of_cond 8 hx (by kernel_rfl) (fun k hk => by cases hk) (by kernel_rfl) (by rw [MakeChecks.laidMetH_plain _ _ _ (by kernel_rfl)]; exact laid_met os), by
        simp only [Assume.holds]
        exact ⟨by simp, by simp, fun _ => Modest.zero, by simp, by simp⟩⟩ ?_
  intro W base args ds gs before hval hW _ _ _ hL _ _
  exact contract H enc W base args ds gs before hval hW hL
theorem said : Rows.FnConstantMadeSaid :=
  OpenClaim.holds_of_cond 4 Tryd.f4 rfl rfl rfl rfl rfl rfl rfl ⟨rfl, rfl, rfl, rfl, rfl⟩ rfl rfl rfl rfl rfl (by kernel_rfl) Tryd.func4 (by kernel_rfl)
    (of_decide_eq_true (by kernel_rfl)) (by unfold Func.isWrapper; first | (rw [if_pos (by decide +kernel)]; kernel_rfl) | (rw [if_neg (by decide +kernel)]; exact ⟨rfl, rfl⟩))
    (fun os started H enc _ F => by rw [OpenClaim.pre_eq_preRow]; exact lifted os started H enc F)
theorem plain (f : FuncId) (fn : Func) (hf : Tryd.pinned.checked.prog.funcNamed "loop.example/pub-g01453/laws.FnConstantMade" = some f) (hfn : Tryd.pinned.checked.prog.funcs[f]? = some fn) :
    true = Tryd.pinned.checked.prog.looks [] ∧ ∀ (j : Nat) t, fn.params[j]? = some t → Tryd.pinned.checked.prog.wantsStandIn t = false := by
  obtain rfl : f = 4 := Option.some.inj ((show Tryd.prog.funcNamed "loop.example/pub-g01453/laws.FnConstantMade" = some 4 by kernel_rfl).symm.trans hf) |>.symm
  obtain rfl : fn = Tryd.f4 := (Option.some.inj (Tryd.func4.symm.trans hfn)).symm
  refine ⟨by kernel_rfl, fun j t ht => ?_⟩
  rw [Tryd.params4] at ht
  have hm : t ∈ [38, 9] := by simpa using Array.mem_of_getElem? ht
  have hall : ([38, 9].all fun u => !Tryd.prog.wantsStandIn u) = true := by kernel_rfl
  exact (show Tryd.prog.wantsStandIn t = false by simpa using List.all_eq_true.1 hall t hm)
theorem card : Rows.FnConstantMadeCardSaid :=
  Claim7.holds_tied_plain_at .later [] _ _ _ _ said (fun _ h => by cases h) (by kernel_rfl) (fun _ h => by cases h) fnConstantMade_row_tie rfl ⟨rfl, rfl⟩ (by kernel_rfl) rfl plain (by kernel_rfl)
end Go.Proofs.YtokjbdofpdncdaaDoor.fnConstantMade
namespace Go.Proofs.YtokjbdofpdncdaaDoor
theorem fnConstantMade_holds : Rows.FnConstantMadeCardSaid := fnConstantMade.card
end Go.Proofs.YtokjbdofpdncdaaDoor
