/- Words of no program: bytes as lists, a block that is known whole, what stays below a block. -/
import Derived.WalkKit
import Derived.Lib.Hide
import Derived.Deep.Draws
import Derived.Laws.Rows
import Derived.WalkLawsBesides
import Derived.WalkSpells
namespace Go.Proofs.YtokjbdofpdncdaaDoor
open Go.RowKit

/-- A text with these bytes. -/
def bs (l : List UInt8) : ByteArray := ByteArray.mk l.toArray
theorem bs_size (l : List UInt8) : (bs l).size = l.length := by simp [bs, ByteArray.size]
theorem bs_toList (l : List UInt8) : (bs l).toList = l := ByteArray.toList_mk l
theorem bs_data (l : List UInt8) : (bs l).data.toList = l := by simp [bs]
theorem bs_of (s : ByteArray) : bs s.data.toList = s := by cases s; simp [bs]
theorem bs_inj {a b : List UInt8} (h : bs a = bs b) : a = b := by have := congrArg (fun x : ByteArray => x.data.toList) h; simpa [bs] using this
theorem bs_extract (l : List UInt8) (a b : Nat) : (bs l).extract a b = bs ((l.drop a).take (b - a)) := ByteArray.extract_mk l a b
theorem bs_from (l : List UInt8) (k : Nat) : (bs l).extract k l.length = bs (l.drop k) := by
  rw [bs_extract, List.take_of_length_le (by simp)]
theorem bs_to (l : List UInt8) (k : Nat) : (bs l).extract 0 k = bs (l.take k) := by rw [bs_extract]; simp
theorem bs_append (a b : List UInt8) : bs a ++ bs b = bs (a ++ b) := ByteArray.mk_append_mk a b
theorem bs_get (l : List UInt8) (i : Nat) (h : i < (bs l).size) : (bs l)[i]'h = l[i]'(by rwa [bs_size] at h) := by
  show (ByteArray.mk l.toArray).get i _ = _
  simp only [ByteArray.get]
  exact List.getElem_toArray _
theorem bs_get0 (c : UInt8) (l : List UInt8) (h : 0 < (bs (c :: l)).size) : (bs (c :: l))[0]'h = c := by rw [bs_get]; rfl
theorem bs_empty : bs [] = ⟨#[]⟩ := rfl

/-- Block g is just these cells, none of them frozen. -/
def Blk (w : World) (g : Nat) (t : TypeId) (cs : Array Value) : Prop := w.heap[g]? = some (.cells cs t (0, 0))

section
variable {w w' : World} {g : Nat} {t : TypeId} {cs : Array Value}
theorem Blk.lt (h : Blk w g t cs) : g < w.heap.size := by
  rcases Nat.lt_or_ge g w.heap.size with hlt | hge
  · exact hlt
  · unfold Blk at h; rw [Array.getElem?_eq_none hge] at h; cases h
theorem Blk.cell (h : Blk w g t cs) (i : Nat) : w.cell? ⟨g, i, none⟩ = cs[i]? := cell_of_row w g i cs t (0, 0) h
theorem Blk.frozen (h : Blk w g t cs) (i : Nat) : w.frozen? ⟨g, i, none⟩ = false := by
  unfold Blk at h
  simp [World.frozen?, h]
theorem Blk.new (w : World) (t : TypeId) (cs : Array Value) : Blk (w.alloc (.cells cs t)) w.heap.size t cs := heap_alloc_new w _
theorem Blk.drew (h : Blk w g t cs) : Blk w.drew g t cs := h
theorem Blk.drewN (h : Blk w g t cs) (n : Nat) : Blk (w.drewN n) g t cs := h
theorem Blk.alloc (h : Blk w g t cs) (o : Obj) : Blk (w.alloc o) g t cs := (Below.heap_alloc w o g h.lt).trans h
theorem Blk.set_ (h : Blk w g t cs) (i : Nat) (u : Value) : Blk (w.setCell ⟨g, i, none⟩ u) g t (cs.setIfInBounds i u) := by
  unfold Blk at h ⊢
  simp [World.setCell, Array.getElem?_modify, h]
theorem Blk.far (h : Blk w g t cs) {p : Addr} (hp : g ≠ p.block) (u : Value) : Blk (w.setCell p u) g t cs := (Below.heap_setCell w p u g hp).trans h
theorem Blk.below {B : Nat} (h : Blk w g t cs) (hb : Below B w w') (hg : g < B) : Blk w' g t cs := (hb.block g hg).trans h
theorem Blk.grown {row : Option Nat} (h : Blk w g t cs) (hb : w.grownBy w' row) (hg : some g ≠ row) : Blk w' g t cs := (hb.block g h.lt hg).trans h
theorem Blk.shape (h : Blk w g t cs) : w.shape? g = some (t, cs.size) := by unfold Blk at h; simp [World.shape?, h]
end

theorem below_drewN {B : Nat} {a w : World} (h : Below B a w) (n : Nat) : Below B a (w.drewN n) := ⟨h.os, h.tape, h.output, h.size, h.block⟩

end Go.Proofs.YtokjbdofpdncdaaDoor
