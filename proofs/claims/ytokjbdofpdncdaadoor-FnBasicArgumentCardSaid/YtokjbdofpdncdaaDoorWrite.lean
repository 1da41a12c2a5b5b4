/- The reader's own writing, where no length is asked. -/
import Derived.Test.YtokjbdofpdncdaaDoorBuild
import Derived.Test.YtokjbdofpdncdaaDoorAdv
import Derived.IntWalk
namespace Go.Proofs.YtokjbdofpdncdaaDoor
open Go.RowKit
set_option linter.unusedVariables false
set_option maxRecDepth 100000

/-- What the state becomes behind writing l. -/
def St.put (st : St) (l : List UInt8) : St := if st.skip then st else { st with out := st.out ++ l }
theorem St.put_free {st : St} (h : st.skip = false) (l : List UInt8) : st.put l = { st with out := st.out ++ l } := by simp [St.put, h]
theorem St.put_skip {st : St} (h : st.skip = true) (l : List UInt8) : st.put l = st := by simp [St.put, h]

theorem write_skip {w : World} {b : Nat} {st : St} (h : Rst w b st) (hs : st.skip = true) (s : ByteArray) :
    Calls Tryd.prog 82 #[.pointer (some ⟨b, 0, none⟩), .string s] w (Done b w (.tuple #[]) st) := by
  have c5 : w.cell? ⟨b, 5, none⟩ = some (.bool true) := by rw [h.skip, hs]
  go_enter Tryd.func82, Tryd.ntmps82
  go_wp2
  go_end0
  exact ⟨rfl, ⟨_, h⟩, Keep.refl b _⟩

theorem write_none {w : World} {b : Nat} {st : St} (h : Rst w b st) (hs : st.skip = false) (hm : st.max = 0) :
    Calls Tryd.prog 82 #[.pointer (some ⟨b, 0, none⟩), .string (bs [])] w (Done b w (.tuple #[]) st) := by
  have c5 : w.cell? ⟨b, 5, none⟩ = some (.bool false) := by rw [h.skip, hs]
  have c9 : w.drew.cell? ⟨b, 9, none⟩ = some (.int .i64 0) := by rw [h.drew.max, hm]
  have hd := Lib.hid h.drew
  clear h hs hm
  go_enter Tryd.func82, Tryd.ntmps82
  go_wp2
  go_region
  all_goals
    go_wp2
    go_end0
    exact ⟨rfl, ⟨_, hd.out⟩, (Keep.refl b _).drew⟩

theorem write_some {w : World} {b m : Nat} {st : St} {s : ByteArray} {c : UInt8} (h : Rst w b st) (hs : st.skip = false) (hm : st.max = 0) (hl : s.size = m + 1) (hg : ∀ hh, s[m]'hh = c) (hl63 : m < 9223372036854775807)
    (HW : Calls Tryd.prog 62 #[.pointer (some ⟨b, 3, none⟩), .string s] (w.setCell ⟨b, 7, none⟩ (.int .u8 (c.toNat : Int))).drew fun e w' =>
      (∃ v, e = .returned v) ∧ Rst w' b { st with out := st.out ++ s.data.toList } ∧ Keep b (w.setCell ⟨b, 7, none⟩ (.int .u8 (c.toNat : Int))).drew w') :
    Calls Tryd.prog 82 #[.pointer (some ⟨b, 0, none⟩), .string s] w (Done b w (.tuple #[]) { st with out := st.out ++ s.data.toList }) := by
  have c5 : w.cell? ⟨b, 5, none⟩ = some (.bool false) := by rw [h.skip, hs]
  have c9 : w.drew.cell? ⟨b, 9, none⟩ = some (.int .i64 0) := by rw [h.drew.max, hm]
  obtain ⟨last, c7⟩ : ∃ last, w.drew.cell? ⟨b, 7, none⟩ = some (.int .u8 last) := by
    obtain ⟨last, _, _, hb, _⟩ := h.drew
    exact ⟨last, hb.cell 7⟩
  have f7 : w.drew.frozen? ⟨b, 7, none⟩ = false := h.drew.free 7
  have hp : (0:Int) < ((s.size : Nat) : Int) := by omega
  have hp2 : 0 < s.size := by omega
  have hw : wrap64 (((s.size : Nat) : Int) - 1) = (m : Int) := by rw [hl]; show wrap64 (((m + 1 : Nat) : Int) - 1) = _; rw [show ((m + 1 : Nat) : Int) - 1 = (m : Int) by omega]; exact IntWalk.wrap64_in _ (by omega)
  have hb : m < s.size := by omega
  have hbi : (m : Int) < ((s.size : Nat) : Int) := by omega
  have HW' := Lib.hid HW
  clear h hs hm hl hl63 HW
  go_enter Tryd.func82, Tryd.ntmps82
  go_wp2
  go_region
  all_goals
    go_wp2_with (go_at_call 62; refine (HW'.out).mono ?_; rintro e w2 ⟨⟨v, rfl⟩, hr, hb2⟩)
    go_end0
    exact ⟨rfl, ⟨_, hr⟩, (((Keep.refl b w).setCell (p := ⟨b, 7, none⟩) rfl _).drew).trans hb2⟩

theorem write_any {w : World} {b : Nat} {st : St} (h : Rst w b st) (hm : st.max = 0) (l : List UInt8) (hlen : st.out.length + l.length ≤ 140737488355328) :
    Calls Tryd.prog 82 #[.pointer (some ⟨b, 0, none⟩), .string (bs l)] w (Done b w (.tuple #[]) (st.put l)) := by
  by_cases hs : st.skip = true
  · rw [St.put_skip hs]
    exact write_skip h hs _
  · have hs : st.skip = false := by simpa using hs
    rw [St.put_free hs]
    rcases List.eq_nil_or_concat l with rfl | ⟨i, c, rfl⟩
    · have := write_none h hs hm
      rw [List.append_nil]
      exact this
    · have hd := h.drew.setLast (c.toNat : Int)
      have HW := builderWrite_any hd (i ++ [c]) (by simpa using hlen)
      have := write_some (s := bs (i ++ [c])) (m := i.length) (c := c) h hs hm (by rw [bs_size]; simp) (fun hh => by rw [bs_get]; simp) (by simp at hlen; omega) (by rw [bs_data]; exact HW)
      rw [bs_data] at this
      rw [List.concat_eq_append]
      exact this
end Go.Proofs.YtokjbdofpdncdaaDoor
