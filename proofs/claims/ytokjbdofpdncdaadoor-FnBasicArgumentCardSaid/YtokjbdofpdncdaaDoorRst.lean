/- The state of the reader of names in memory: its block, its Builder's buffer; what it becomes behind a store. -/
import Derived.Test.YtokjbdofpdncdaaDoorBase
import Derived.Test.YtokjbdofpdncdaaDoorRows
namespace Go.Proofs.YtokjbdofpdncdaaDoor
open Go.RowKit
set_option linter.unusedVariables false

structure St where
  orig : ByteArray
  str : List UInt8
  off : Int := 0
  out : List UInt8 := []
  skip : Bool := false
  life : Int := 0
  noGen : Bool := false
  max : Int := 0

def byteCells (l : List UInt8) : List Value := l.map fun c => Value.int .u8 (c.toNat : Int)
theorem byteCells_length (l : List UInt8) : (byteCells l).length = l.length := by simp [byteCells]
theorem byteCells_append (a b : List UInt8) : byteCells (a ++ b) = byteCells a ++ byteCells b := by simp [byteCells]

/-- The Builder's two cells at b.off: nothing written yet, or its own address; and its buffer. -/
def Buf (w : World) (b : Nat) (o : Nat) (av bv : Value) (out : List UInt8) : Prop :=
  (av = .pointer none ∨ av = .pointer (some ⟨b, o, none⟩)) ∧ w.ownsRow (b + 1) 5 1 bv out.length (byteCells out)

def rstCells (st : St) (last : Int) (av bv : Value) : Array Value :=
  #[.string st.orig, .string (bs st.str), .int .i64 st.off, av, bv, .bool st.skip, .int .i64 st.life, .int .u8 last, .bool st.noGen, .int .i64 st.max]

/-- Block b is the reader's state st. -/
def Rst (w : World) (b : Nat) (st : St) : Prop :=
  ∃ (last : Int) (av bv : Value), Blk w b 125 (rstCells st last av bv) ∧ Buf w b 3 av bv st.out

section
variable {w w' : World} {b : Nat} {st : St}
theorem Rst.lt (h : Rst w b st) : b < w.heap.size := by obtain ⟨_, _, _, h, _⟩ := h; exact h.lt
theorem Rst.orig (h : Rst w b st) : w.cell? ⟨b, 0, none⟩ = some (.string st.orig) := by obtain ⟨_, _, _, h, _⟩ := h; rw [h.cell]; rfl
theorem Rst.str (h : Rst w b st) : w.cell? ⟨b, 1, none⟩ = some (.string (bs st.str)) := by obtain ⟨_, _, _, h, _⟩ := h; rw [h.cell]; rfl
theorem Rst.off (h : Rst w b st) : w.cell? ⟨b, 2, none⟩ = some (.int .i64 st.off) := by obtain ⟨_, _, _, h, _⟩ := h; rw [h.cell]; rfl
theorem Rst.skip (h : Rst w b st) : w.cell? ⟨b, 5, none⟩ = some (.bool st.skip) := by obtain ⟨_, _, _, h, _⟩ := h; rw [h.cell]; rfl
theorem Rst.life (h : Rst w b st) : w.cell? ⟨b, 6, none⟩ = some (.int .i64 st.life) := by obtain ⟨_, _, _, h, _⟩ := h; rw [h.cell]; rfl
theorem Rst.noGen (h : Rst w b st) : w.cell? ⟨b, 8, none⟩ = some (.bool st.noGen) := by obtain ⟨_, _, _, h, _⟩ := h; rw [h.cell]; rfl
theorem Rst.max (h : Rst w b st) : w.cell? ⟨b, 9, none⟩ = some (.int .i64 st.max) := by obtain ⟨_, _, _, h, _⟩ := h; rw [h.cell]; rfl
theorem Rst.free (h : Rst w b st) (i : Nat) : w.frozen? ⟨b, i, none⟩ = false := by obtain ⟨_, _, _, h, _⟩ := h; exact h.frozen i
theorem Rst.drew (h : Rst w b st) : Rst w.drew b st := h
theorem Rst.drewN (h : Rst w b st) (n : Nat) : Rst (w.drewN n) b st := h
theorem Buf.setCell {o : Nat} {av bv : Value} {out : List UInt8} (h : Buf w b o av bv out) (i : Nat) (u : Value) : Buf (w.setCell ⟨b, i, none⟩ u) b o av bv out :=
  ⟨h.1, ownsRow_setCell_below h.2 (Nat.lt_succ_self b) u⟩
theorem Rst.setStr (h : Rst w b st) (l : List UInt8) : Rst (w.setCell ⟨b, 1, none⟩ (.string (bs l))) b { st with str := l } := by
  obtain ⟨x, av, bv, h, k⟩ := h
  exact ⟨x, av, bv, h.set_ 1 _, k.setCell 1 _⟩
theorem Rst.setOff (h : Rst w b st) (n : Int) : Rst (w.setCell ⟨b, 2, none⟩ (.int .i64 n)) b { st with off := n } := by
  obtain ⟨x, av, bv, h, k⟩ := h
  exact ⟨x, av, bv, h.set_ 2 _, k.setCell 2 _⟩
theorem Rst.setSkip (h : Rst w b st) (n : Bool) : Rst (w.setCell ⟨b, 5, none⟩ (.bool n)) b { st with skip := n } := by
  obtain ⟨x, av, bv, h, k⟩ := h
  exact ⟨x, av, bv, h.set_ 5 _, k.setCell 5 _⟩
theorem Rst.setLast (h : Rst w b st) (n : Int) : Rst (w.setCell ⟨b, 7, none⟩ (.int .u8 n)) b st := by
  obtain ⟨x, av, bv, h, k⟩ := h
  exact ⟨n, av, bv, h.set_ 7 _, k.setCell 7 _⟩
theorem Rst.far (h : Rst w b st) {p : Addr} (hp : p.block < b) (u : Value) : Rst (w.setCell p u) b st := by
  obtain ⟨x, av, bv, h, k⟩ := h
  exact ⟨x, av, bv, h.far (by omega) u, k.1, ownsRow_setCell_below k.2 (by omega) u⟩
end

/-- Nothing but the reader's block, and rows of bytes, has changed of what was there. -/
structure Keep (b : Nat) (w w' : World) : Prop where
  below : Below b w w'
  rest : ∀ j, j < w.heap.size → j ≠ b → (∀ cs m, w.heap[j]? ≠ some (.cells cs 5 m)) → w'.heap[j]? = w.heap[j]?
theorem Keep.refl (b : Nat) (w : World) : Keep b w w := ⟨Below.refl _ _, fun _ _ _ _ => rfl⟩
theorem Keep.trans {b : Nat} {a w w' : World} (h : Keep b a w) (k : Keep b w w') : Keep b a w' :=
  ⟨h.below.trans k.below, fun j hj hjb hn => by
    have e := h.rest j hj hjb hn
    rw [k.rest j (Nat.lt_of_lt_of_le hj h.below.size) hjb (fun cs m => by rw [e]; exact hn cs m), e]⟩
theorem Keep.drew {b : Nat} {a w : World} (h : Keep b a w) : Keep b a w.drew := ⟨h.below.drew, h.rest⟩
theorem Keep.drewN {b : Nat} {a w : World} (h : Keep b a w) (n : Nat) : Keep b a (w.drewN n) := ⟨below_drewN h.below n, h.rest⟩
theorem Keep.alloc {b : Nat} {a w : World} (h : Keep b a w) (hb : b ≤ w.heap.size) (o : Obj) : Keep b a (w.alloc o) :=
  ⟨h.below.alloc hb o, fun j hj hjb hn => (Below.heap_alloc w o j (Nat.lt_of_lt_of_le hj h.below.size)).trans (h.rest j hj hjb hn)⟩
theorem Keep.setCell {b : Nat} {a w : World} (h : Keep b a w) {p : Addr} (hp : p.block = b) (u : Value) : Keep b a (w.setCell p u) :=
  ⟨h.below.setCell (Nat.le_of_eq hp.symm) u, fun j hj hjb hn => (Below.heap_setCell w p u j (by rw [hp]; exact hjb)).trans (h.rest j hj hjb hn)⟩
theorem Keep.of_below {b B : Nat} {w w' : World} (h : Below B w w') (hB : w.heap.size ≤ B) (hb : b ≤ w.heap.size) : Keep b w w' :=
  ⟨h.mono (Nat.le_trans hb hB), fun j hj _ _ => h.block j (Nat.lt_of_lt_of_le hj hB)⟩
theorem Keep.grown {b : Nat} {a w w' : World} {row : Option Nat} (h : Keep b a w) (hg : w.grownBy w' row) (hb : b ≤ w.heap.size) (hr : ∀ k, row = some k → b ≤ k ∧ ∃ cs m, w.heap[k]? = some (.cells cs 5 m)) : Keep b a w' :=
  h.trans ⟨(Below.refl _ _).grown hg hb fun k hk => (hr k hk).1, fun j hj _ hn => hg.block j hj fun e => by
    obtain ⟨_, cs, m, hc⟩ := hr j e.symm
    exact hn cs m hc⟩
theorem Keep.blk {b k : Nat} {w w' : World} {t : TypeId} {cs : Array Value} (h : Keep b w w') (hB : Blk w k t cs) (hk : k ≠ b) (ht : t ≠ 5) : Blk w' k t cs :=
  (h.rest k hB.lt hk fun cs' m e => by
    have := hB.symm.trans e
    simp only [Option.some.injEq, Obj.cells.injEq] at this
    exact ht this.2.1).trans hB
theorem owns_typed {w : World} {B : Nat} {e : TypeId} {n : Nat} {v : Value} {xs : List Value} (h : w.ownsRow B e 1 v n xs) : ∀ k, v.ownBlock = some k → B ≤ k ∧ ∃ cs m, w.heap[k]? = some (.cells cs e m) := by
  intro k hk
  rcases h.2 with ⟨hv, _⟩ | ⟨g, cap, cur, hv, hB, hg, _⟩
  · rw [hv] at hk; simp [Value.ownBlock] at hk
  · rw [hv] at hk; simp [Value.ownBlock] at hk
    subst hk
    exact ⟨hB, _, _, hg⟩

/-- It ended in the reader's own panic. -/
def Failed (e : Ending) : Prop := ∃ (m : ByteArray) (o : Int), e = .panicked [{ v := .iface 122 (.agg #[.string m, .int .i64 o]), recovered := false }]

/-- What a method of the reader does: it returns v and leaves the state st', but for the place that it has come to; or it fails. -/
def Done (b : Nat) (w : World) (v : Value) (st' : St) (e : Ending) (w' : World) : Prop :=
  e = .returned v ∧ (∃ o, Rst w' b { st' with off := o }) ∧ Keep b w w'
def Fell (b : Nat) (w : World) (e : Ending) (w' : World) : Prop := Failed e ∧ Keep b w w'

end Go.Proofs.YtokjbdofpdncdaaDoor
