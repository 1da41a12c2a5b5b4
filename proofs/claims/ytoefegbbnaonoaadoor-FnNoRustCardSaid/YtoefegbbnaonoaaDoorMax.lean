/- The option of a greatest length. -/
import Derived.Test.YtoefegbbnaonoaaDoorTold
import Derived.Laws.AppendOwn
namespace Go.Proofs.YtoefegbbnaonoaaDoor
open Go.RowKit Go.Lib Go.WideShapes
set_option linter.unusedVariables false
set_option maxRecDepth 100000
attribute [local go_sem] bs_size bs_toList

theorem and_mask (p : Nat) (h : p ≤ 30) : bits .and .i64 ((p : Int) * 65536) 2031616 = (p : Int) * 65536 := by
  have key : ∀ q : Fin 31, bits .and .i64 ((q.val : Int) * 65536) 2031616 = (q.val : Int) * 65536 := by decide +kernel
  exact key ⟨p, by omega⟩
theorem pow_lim (p : Nat) (h : p ≤ 30) : 2 ^ p ≤ 1073741824 ∧ 0 < 2 ^ p := by
  have key : ∀ q : Fin 31, 2 ^ q.val ≤ 1073741824 ∧ 0 < 2 ^ q.val := by decide +kernel
  exact key ⟨p, by omega⟩
theorem add_noneM (b off i : Nat) : (⟨b, off, none⟩ : Addr).add i = ⟨b, off + i, none⟩ := by unfold Addr.add; split <;> simp_all
theorem ret_int {a b : Int} (h : a = b) : Ending.returned (.int .i64 a) = .returned (.int .i64 b) := by rw [h]
theorem ret_bool' {a b : Bool} (h : a = b) : Ending.returned (.bool a) = .returned (.bool b) := by rw [h]
theorem maxLength_any (w : World) (p : Nat) (h1 : 0 < p) (h2 : p ≤ 30) :
    Calls Tryd.prog 34 #[.int .i64 (p : Int)] w fun e w' => e = .returned (.int .i64 ((p : Int) * 65536)) ∧ w = w' := by
  go_enter Tryd.func34, Tryd.ntmps34
  go_wp2_with fail
  go_ret
  exact ⟨rfl, rfl⟩
theorem isMax_any (w : World) (p : Nat) (h1 : 0 < p) (h2 : p ≤ 30) :
    Calls Tryd.prog 44 #[.int .i64 ((p : Int) * 65536)] w fun e w' => e = .returned (.bool true) ∧ w = w' := by
  have hb := and_mask p h2
  have hne : ((p : Int) * 65536 != 0) = true := by
    simp
    omega
  go_enter Tryd.func44, Tryd.ntmps44
  go_wp2_with fail
  go_ret
  exact ⟨rfl, rfl⟩
theorem maxLen_any (w : World) (p : Nat) (h1 : 0 < p) (h2 : p ≤ 30) :
    Calls Tryd.prog 45 #[.int .i64 ((p : Int) * 65536)] w fun e w' => e = .returned (.int .i64 ((2 ^ p : Nat) : Int)) ∧ w = w' := by
  have hb := and_mask p h2
  have hd : (p : Int) * 65536 / 65536 = (p : Int) := by omega
  have hq := pow_lim p h2
  have hw : IntKind.i64.wrap ((2 : Int) ^ p) = ((2 ^ p : Nat) : Int) := by
    have : ((2 : Int) ^ p) = ((2 ^ p : Nat) : Int) := by simp
    rw [this]
    generalize 2 ^ p = x at hq
    simp only [IntKind.wrap_i64]
    omega
  go_enter Tryd.func45, Tryd.ntmps45
  go_wp2_with fail
  go_ret
  refine ⟨ret_int ?_, rfl⟩
  simp

set_option maxHeartbeats 2000000 in
theorem list_max (w : World) (p : Nat) (h1 : 0 < p) (h2 : p ≤ 30) :
    Calls Tryd.prog 26 #[.agg #[.bool false, .bool false, .bool false, .bool false, .bool false, .bool false, .bool false, .int .i64 (p : Int)]] w fun e w' => (∃ g c, e = .returned (.slice (some ⟨g, 0, none⟩) 1 c) ∧ g < w'.heap.size ∧ w'.cell? ⟨g, 0, none⟩ = some (.int .i64 ((p : Int) * 65536))) ∧ Below w.heap.size w w' := by
  obtain ⟨i0, hi, hz0, hz1, hz2⟩ := info_parts (show (Tryd.prog.info? 61).map (fun i => (i.zero, i.size, i.bytes)) = some (some (.int .i64 0), 1, 8) by kernel_rfl)
  have HM := Lib.hid (fun W => maxLength_any W p h1 h2)
  have hne : ((p : Int) == 0) = false := by simp; omega
  go_enter Tryd.func26, Tryd.ntmps26
  go_wp2_with (first
    | (go_at_call 34; refine (HM.out _).mono ?_; rintro e w2 ⟨rfl, rfl⟩)
    | (at_builtin; refine wpList_append_own _ rfl _ _ 53 rfl w.heap.size 61 i0 (.int .i64 0) 1 8 Tryd.underlying53 hi hz0 hz1 hz2 rfl (by decide) _ 0 [] rfl (World.ownsRow_nil _ _ _ _) ⟨w.heap.size + 1, 0, none⟩ 1 1 [.int .i64 ((p : Int) * 65536)] rfl rfl ?c1 ?c2 ?c3 ?c4 ?c5 ?_))
  case c1 =>
    intro j u hj
    rw [add_noneM, Nat.zero_add]
    exact (((Blk.new (w.alloc _) _ #[Value.int .i64 ((p : Int) * 65536)]).at2 (World.size_alloc _ _)).cell j).trans (by simpa using hj)
  case c2 => intro u hu; simp at hu; subst hu; rfl
  case c3 => unfold maxLen; omega
  case c4 => omega
  case c5 => simp; omega
  intro v' w3 hown' hgrow hnil
  have hb := (((Below.refl w.heap.size w).alloc (Nat.le_refl _) _).alloc (by simp) _).grown hgrow (by simp; omega) (fun j hj => by cases hj)
  obtain ⟨g, cap, rfl, hlt, hcell⟩ : ∃ g cap, v' = .slice (some ⟨g, 0, none⟩) 1 cap ∧ g < w3.heap.size ∧ w3.cell? ⟨g, 0, none⟩ = some (.int .i64 ((p : Int) * 65536)) := by
    have hc := fun g hg => hown'.cells (g := g) hg
    rcases hown'.2 with ⟨h2, h3⟩ | ⟨g, cap, cur, rfl, _, hg, _⟩
    · simp at h3
    · exact ⟨g, cap, rfl, (Array.getElem?_eq_some_iff.1 hg).1, hc g rfl 0 _ rfl⟩
  clear hown' hgrow hnil
  go_wp2_with fail
  go_ret
  exact ⟨⟨g, cap, rfl, hlt, hcell⟩, hb⟩
end Go.Proofs.YtoefegbbnaonoaaDoor
