/- The map of codes that a call makes and looks into; a Builder beside it. -/
import Derived.Test.YtokjbdofpdncdaaDoorLgP
import Derived.Test.YtokjbdofpdncdaaDoorSb
import Derived.Maps.OwnSet
import Derived.Maps.OwnOps
namespace Go.Proofs.YtokjbdofpdncdaaDoor
open Go.RowKit Go.Lib Go.Maps Go.WideMaps
set_option linter.unusedVariables false
set_option maxRecDepth 100000

theorem Bld.grown {w w' : World} {b m : Nat} {out : List UInt8} (h : Bld w b out) (hg : w.grownBy w' (some m)) (hm : ∃ es c, w.heap[m]? = some (.map es c)) : Bld w' b out := by
  obtain ⟨es, c, hm⟩ := hm
  obtain ⟨av, bv, h1, h2, h3⟩ := h
  have hb : b ≠ m := fun e => by
    subst e
    unfold Blk at h1
    rw [hm] at h1
    cases h1
  refine ⟨av, bv, h1.grown hg (by simpa using hb), h2, h3.1, ?_⟩
  rcases h3.2 with h | ⟨g, cap, cur, hv, hbg, hgc, r⟩
  · exact .inl h
  · have hlt : g < w.heap.size := by
      rcases Nat.lt_or_ge g w.heap.size with h | h
      · exact h
      · rw [Array.getElem?_eq_none h] at hgc; cases hgc
    have hgm : g ≠ m := fun e => by subst e; rw [hm] at hgc; cases hgc
    exact .inr ⟨g, cap, cur, hv, hbg, (hg.block g hlt (by simpa using hgm)).trans hgc, r⟩
theorem ownsMap_is {H : Type} {w : World} {P : Program} {k : TypeId} {R : Value → Option (DataW H × List MemPlace)} {b n : Nat} {D : DataW H} (h : w.ownsMap P k R b n D) : ∃ es c, w.heap[b]? = some (.map es c) := by
  obtain ⟨es, c, h, _⟩ := h
  exact ⟨es, c, h⟩

/-- One entry of a map literal. -/
theorem wpList_insert_own {H : Type} {P : Program} (w : World) {ops : Array Oper} {rest : List Oper} {o : Oper} {a : Act} {Q : Exit → Act → World → Prop}
    (hg : o.guard = none) (m x v : Operand) (t : TypeId) (hop : o.op = Op.insert t m x v)
    (k e : TypeId) (K : Keyed P k) (ht : P.underlying t = some (.map k e)) (R : Value → Option (DataW H × List MemPlace)) (b n : Nat) (D : DataW H)
    (hm : a.eval m = .map (some b)) (hown : w.ownsMap P k R b n D) (hn : n < maxLen) (key val : Value) (kl : Lit) (hx : a.eval x = key) (hv : a.eval v = val) (hkey : keyOf P k key = some kl)
    (d : DataW H) (ps : List MemPlace) (hval : R val = some (d, ps))
    (hK : ∀ w', w'.ownsMap P k R b (n + 1) (D.put kl d) → w.grownBy w' (some b) → wpList P ops Q rest (a.put o.dst undef) w') :
    wpList P ops Q (o :: rest) a w := by
  refine wpList_plain hg fun K' hK' => ?_
  obtain ⟨w', hrun, r1, r2⟩ := hown.update K ht hn hkey hval
  unfold Oper.wp
  simp [execOp, hop, hm, hx, hv, hrun, Result.andThen]
  exact hK' _ _ (hK w' r1 r2)

theorem lgLaw : Keyed Tryd.prog 9 := string_keyed Tryd.underlying9
theorem lgZero (w : World) : (zeroValue 5).run Tryd.prog w = .ok (.int .u8 0) w := by kernel_rfl
theorem lgKey (l : List UInt8) (h : l.length ≤ 10) : keyOf Tryd.prog 9 (.string (bs l)) = some (.string l) := by
  have := keyOf_string_mk Tryd.underlying9 (s := bs l) (by rw [bs_size]; unfold maxLen; omega)
  rw [this, bs_data]
/-- The codes. -/
def lgMap : DataW Unit := ((((((((DataW.map []).put (.string [83, 80]) (.lit (.int .u8 64))).put (.string [66, 80]) (.lit (.int .u8 42))).put (.string [82, 70]) (.lit (.int .u8 38))).put (.string [76, 84]) (.lit (.int .u8 60))).put (.string [71, 84]) (.lit (.int .u8 62))).put (.string [76, 80]) (.lit (.int .u8 40))).put (.string [82, 80]) (.lit (.int .u8 41)))
theorem lgCode_fact {x y c : UInt8} (h : lgCode x y = some c) : x ≠ 67 ∧ x ≠ 117 ∧ lgMap.atKey (.string [x, y]) (.lit (.int .u8 0)) = .lit (.int .u8 (c.toNat : Int)) ∧ Maps.has lgMap (.string [x, y]) = true := by
  unfold lgCode at h
  split at h
  · rename_i e; obtain ⟨rfl, rfl⟩ := e; simp only [Option.some.injEq] at h; subst h; exact ⟨by decide, by decide, by kernel_rfl, by kernel_rfl⟩
  split at h
  · rename_i e; obtain ⟨rfl, rfl⟩ := e; simp only [Option.some.injEq] at h; subst h; exact ⟨by decide, by decide, by kernel_rfl, by kernel_rfl⟩
  split at h
  · rename_i e; obtain ⟨rfl, rfl⟩ := e; simp only [Option.some.injEq] at h; subst h; exact ⟨by decide, by decide, by kernel_rfl, by kernel_rfl⟩
  split at h
  · rename_i e; obtain ⟨rfl, rfl⟩ := e; simp only [Option.some.injEq] at h; subst h; exact ⟨by decide, by decide, by kernel_rfl, by kernel_rfl⟩
  split at h
  · rename_i e; obtain ⟨rfl, rfl⟩ := e; simp only [Option.some.injEq] at h; subst h; exact ⟨by decide, by decide, by kernel_rfl, by kernel_rfl⟩
  split at h
  · rename_i e; obtain ⟨rfl, rfl⟩ := e; simp only [Option.some.injEq] at h; subst h; exact ⟨by decide, by decide, by kernel_rfl, by kernel_rfl⟩
  split at h
  · rename_i e; obtain ⟨rfl, rfl⟩ := e; simp only [Option.some.injEq] at h; subst h; exact ⟨by decide, by decide, by kernel_rfl, by kernel_rfl⟩
  cases h
end Go.Proofs.YtokjbdofpdncdaaDoor
