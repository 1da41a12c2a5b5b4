/- What the rows over whole names list: the library's table of powers, the error of names that are not mangled. -/
import Derived.Test.YtoefegbbnaonoaaGreatDoorItoa
import Derived.Test.YtoefegbbnaonoaaGreatDoorTold
import Derived.LaidLaws
namespace Go.Proofs.YtoefegbbnaonoaaGreatDoor
open Go.RowKit Go.Lib
set_option linter.unusedVariables false

theorem laid_get {P : Program} {w : World} {nm : String} {d : DataW Unit} : ∀ (l : List (String × DataW Unit)) (ps : List MemPlace), DataW.LaidVars P w l ps → (nm, d) ∈ l →
    ∃ g t cs fuel p, P.globalNamed nm = some g ∧ (P.globals[g]?).map (·.type) = some t ∧ w.var? P nm = some cs ∧ DataW.trod (fun _ => ()) P w 0 (fun _ => true) false fuel t cs.toList = some (d, p) ∧ ∀ x ∈ MemPlace.row ⟨g, 0, none⟩ cs.size, x ∈ ps := by
  intro l
  induction l with
  | nil => intro ps _ hm; cases hm
  | cons a l ih =>
    obtain ⟨n2, d2⟩ := a
    intro ps h hm
    obtain ⟨g, t, cs, fuel, p, q, hg, ht, hvar, hd, hrest, hps⟩ := h
    rcases List.mem_cons.1 hm with hm | hm
    · simp only [Prod.mk.injEq] at hm
      obtain ⟨rfl, rfl⟩ := hm
      exact ⟨g, t, cs, fuel, p, hg, ht, hvar, hd, fun x hx => by rw [hps]; simp [hx]⟩
    · obtain ⟨g', t', cs', fuel', p', h1, h2, h3, h4, h5⟩ := ih _ hrest hm
      exact ⟨g', t', cs', fuel', p', h1, h2, h3, h4, fun x hx => by rw [hps]; simp [h5 x hx]⟩

theorem gNotM : Tryz.prog.globalNamed "loop.example/pub-g01453/pub/rustdemangle.ErrNotMangledName" = some 0 := by kernel_rfl
theorem tNotM : (Tryz.prog.globals[0]?).map (·.type) = some 65 := by kernel_rfl
theorem rowNotM : ∀ u, Tryz.prog.typeName? 3 u = some "*errors.errorString" → u = 146 := fun u hu =>
  typeName_ptr_named (nm := "errors.errorString") (by kernel_rfl) (by kernel_rfl) (by decide) u hu

set_option maxRecDepth 100000 in
theorem notM_of_laidMet {w : World} {l : List (String × DataW Unit)} {text : List UInt8} (h : laidMet Tryz.prog l w) (hm : ("loop.example/pub-g01453/pub/rustdemangle.ErrNotMangledName", .iface "*errors.errorString" (.ptr (.agg [.lit (.string text)]))) ∈ l) : NotM w w.heap.size := by
  obtain ⟨ps, hl, _, hok⟩ := h
  obtain ⟨g, t, cs, fuel, p, hg, ht, hvar, hd, hps⟩ := laid_get l ps hl hm
  obtain rfl := Option.some.inj (gNotM.symm.trans hg)
  obtain rfl := Option.some.inj (tNotM.symm.trans ht)
  have hc0 : ∀ u v, cs.toList = [.iface u v] → w.cell? ⟨0, 0, none⟩ = some (.iface u v) := by
    intro u v hc
    have := World.var?_cell gNotM hvar 0
    rw [Array.eq_one_of_toList hc] at this
    simpa using this
  obtain ⟨a, s, hc, _, _, _, _⟩ := errorString_of_trod (te := 160) (ts := 9) Tryz.underlying65 rowNotM Tryz.underlying146 Tryz.underlying160 rfl rfl Tryz.underlying9 (by kernel_rfl) (by kernel_rfl) hd (fun u v hcs => by
    have hcell := hc0 u v hcs
    have hsz : cs.size = 1 := by rw [Array.eq_one_of_toList hcs]; rfl
    exact (hok 0 0 (hps _ (by rw [hsz]; simp [MemPlace.row]))).2 u v hcell)
  have hcell := hc0 _ _ hc
  refine ⟨?_, Nat.le_refl _, a, hcell⟩
  exact World.block_lt_of_cell? w _ hcell

theorem laid7 {w : World} (h : laidMetH Tryz.prog [("math/bits.deBruijn32tab", Rows.laid_math_bits_deBruijn32tab), ("math/bits.deBruijn64tab", Rows.laid_math_bits_deBruijn64tab), ("internal/strconv.uint64pow10", Rows.laid_internal_strconv_uint64pow10), ("unicode/utf8.acceptRanges", Rows.laid_unicode_utf8_acceptRanges), ("loop.example/pub-g01453/pub/rustdemangle.ErrNotMangledName", Rows.laid_loop_example_pub_g01453_pub_rustdemangle_ErrNotMangledName), ("loop.example/pub-g01453/pub/rustdemangle.rustBasicTypes", Rows.laid_loop_example_pub_g01453_pub_rustdemangle_rustBasicTypes), ("unicode/utf8.first", Rows.laid_unicode_utf8_first)] w) : Pow w w.heap.size := by
  rw [MakeChecks.laidMetH_plain _ _ _ (by kernel_rfl)] at h
  refine pow_of_laidMet h ?_
  rw [show (tabData .u64 pow10Tab : DataW Unit) = Rows.laid_internal_strconv_uint64pow10 by kernel_rfl]
  simp
end Go.Proofs.YtoefegbbnaonoaaGreatDoor
