/- The table of basic types: what the row's list says of it, and what a look-up in it gives. -/
import Derived.Test.YtokjbdofpdncdaaDoorRst
import Derived.Maps.Keyed
import Derived.LaidMore
import Derived.OpenShut
import Derived.WideKeyElems2
import Derived.ShutString
import Derived.WalkKit
import Derived.ProofKit
import Derived.ChangeOld
import Derived.Below
import Derived.WalkArith
import Derived.WideKeyArgs2
namespace Go.Proofs.YtokjbdofpdncdaaDoor
open Go.ChangeShapes Go.WideShapes Go.ChangeAt Go.RowKit Go.WideElems Go.Maps
set_option linter.unusedVariables false

def basicD : DataW Unit := Rows.laid_loop_example_pub_g01453_pub_rustdemangle_rustBasicTypes
def basicName : String := "loop.example/pub-g01453/pub/rustdemangle.rustBasicTypes"
def basicText (c : UInt8) : List UInt8 := match basicD.atKey (.int .u8 (c.toNat : Int)) .nil with | .lit (.string l) => l | _ => []
def isBasic (c : UInt8) : Bool := match basicD.atKey (.int .u8 (c.toNat : Int)) .nil with | .nil => false | _ => true

theorem forall_u8 {p : UInt8 → Bool} (h : ((List.range 256).all fun n => p (UInt8.ofNat n)) = true) (c : UInt8) : p c = true := by
  have := List.all_eq_true.1 h c.toNat (List.mem_range.2 c.toNat_lt)
  simpa using this
theorem isBasic_of (c : UInt8) (h : basicText c ≠ []) : isBasic c = true := by
  have := forall_u8 (p := fun c => basicText c == [] || isBasic c) (by kernel_rfl) c
  simp at this
  exact this.resolve_left h
def letters : List UInt8 := [97, 98, 99, 100, 101, 102, 104, 105, 106, 108, 109, 110, 111, 112, 115, 116, 117, 118, 120, 121, 122]
theorem basicText_no (c : UInt8) (h : c ∉ letters) : basicText c = [] := by
  have := forall_u8 (p := fun c => letters.contains c || basicText c == []) (by kernel_rfl) c
  simp at this
  exact this.resolve_left (by simpa using h)
theorem basicText_short (c : UInt8) : (basicText c).length ≤ 8 := by
  have := forall_u8 (p := fun c => decide ((basicText c).length ≤ 8)) (by kernel_rfl) c
  simpa using this

/-- The table lies below block B. -/
def Basics (w : World) (B : Nat) : Prop :=
  ∃ bm es clock, 0 < B ∧ bm < B ∧ B ≤ w.heap.size ∧ w.cell? ⟨0, 0, none⟩ = some (.map (some bm)) ∧ w.heap[bm]? = some (.map es clock) ∧
    ∀ (W : World) (c : UInt8), W.heap[bm]? = some (.map es clock) → (Instr.lookup 126 (.map (some bm)) (.int .u8 (c.toNat : Int)) true).run Tryd.prog W = .ok (.tuple #[.string (bs (basicText c)), .bool (isBasic c)]) W

theorem Basics.keep {w w' : World} {B B' : Nat} (h : Basics w B) (hb : Below B' w w') (hB : B ≤ B') : Basics w' B := by
  obtain ⟨bm, es, clock, h0, h1, h2, h3, h4, h5⟩ := h
  exact ⟨bm, es, clock, h0, h1, Nat.le_trans h2 hb.size, (hb.cell (p := ⟨0, 0, none⟩) (Nat.lt_of_lt_of_le h0 hB)).trans h3, (hb.block bm (Nat.lt_of_lt_of_le h1 hB)).trans h4, h5⟩
theorem Basics.drew {w : World} {B : Nat} (h : Basics w B) : Basics w.drew B := h
theorem Basics.up {w : World} {B B' : Nat} (h : Basics w B) (hB : B ≤ B') (hs : B' ≤ w.heap.size) : Basics w B' := by
  obtain ⟨bm, es, clock, h0, h1, h2, h⟩ := h
  exact ⟨bm, es, clock, by omega, by omega, hs, h⟩
theorem Basics.look {w : World} {B : Nat} (h : Basics w B) : ∃ bm, w.cell? ⟨0, 0, none⟩ = some (.map (some bm)) ∧
    ∀ c : UInt8, (Instr.lookup 126 (.map (some bm)) (.int .u8 (c.toNat : Int)) true).run Tryd.prog w = .ok (.tuple #[.string (bs (basicText c)), .bool (isBasic c)]) w := by
  obtain ⟨bm, es, clock, h0, h1, h2, h3, h4, h5⟩ := h
  exact ⟨bm, h3, fun c => h5 w c h4⟩

theorem gBasic : Tryd.prog.globalNamed basicName = some 0 := by kernel_rfl
theorem tBasic : (Tryd.prog.globals[0]?).map (·.type) = some 126 := by kernel_rfl

theorem basics_var {w : World} {fuel : Nat} {cs : Array Value} {p : List MemPlace} {base : Nat} {enc : TypeId × Value → Unit} {sp : Nat → Bool} {held : Bool} (hv : w.var? Tryd.prog basicName = some cs)
    (hd : DataW.trod enc Tryd.prog w base sp held fuel 126 cs.toList = some (basicD, p)) : Basics w w.heap.size := by
  rcases open_map Tryd.underlying126 hd with ⟨_, hx⟩ | ⟨bm, es, clock, m, rfl, hcs, hb, _, F, hx⟩
  · exact absurd (congrArg (·.1) hx) (by intro e; cases e)
  have hx1 := (Prod.mk.inj hx).1
  have hcell : w.cell? ⟨0, 0, none⟩ = some (.map (some bm)) := by
    have := World.var?_cell gBasic hv 0
    rw [Array.eq_one_of_toList hcs] at this
    simpa using this
  have h0 : 0 < w.heap.size := by
    rcases Nat.lt_or_ge 0 w.heap.size with h | h
    · exact h
    · simp [World.cell?, Array.getElem?_eq_none h] at hcell
  have h1 : bm < w.heap.size := by
    rcases Nat.lt_or_ge bm w.heap.size with h | h
    · exact h
    · simp [Array.getElem?_eq_none h] at hb
  refine ⟨bm, es, clock, h0, h1, Nat.le_refl _, hcell, hb, fun W c hW => ?_⟩
  have zero : (zeroValue 9).run Tryd.prog W = .ok (.string (bs [])) W := by kernel_rfl
  have wf : (Lit.int .u8 (c.toNat : Int)).wf = true := by
    have := c.toNat_lt
    refine WalkArith.wf_u8 ?_
    omega
  rcases fit_look (w := W) true (int_keyed Tryd.underlying5) Tryd.underlying126 zero hW F (keyOf_int_mk Tryd.underlying5 wf) with ⟨hrun, _, hat⟩ | ⟨e0, y, _, _, hrun, hR, hat, _⟩
  · have := hat .nil
    rw [← hx1] at this
    rw [hrun]
    have e1 : basicText c = [] := by unfold basicText; rw [this]
    have e2 : isBasic c = false := by unfold isBasic; rw [this]
    rw [e1, e2]
    rfl
  · have := hat .nil
    rw [← hx1] at this
    unfold elemAt at hR
    split at hR
    · rename_i hf
      obtain ⟨s, hs, hy, _⟩ := DataW.trod_string Tryd.underlying9 hR
      have hv2 : e0.val = .string s := by
        clear hrun hR
        generalize e0.val = v at hf hs
        cases v <;> simp [Value.formed, Tryd.underlying9, Value.cells] at hf hs
        rw [hs]
      rw [hrun, if_pos rfl, hv2]
      rw [hy] at this
      have e1 : basicText c = s.data.toList := by unfold basicText; rw [this]
      have e2 : isBasic c = true := by unfold isBasic; rw [this]
      rw [e1, e2, bs_of]
    · cases hR

end Go.Proofs.YtokjbdofpdncdaaDoor
