/- basicType reads one letter and writes its type's name; the door to it. -/
import Derived.Test.YtokjbdofpdncdaaDoorBasics
import Derived.Test.YtokjbdofpdncdaaDoorWrite
import Derived.Test.YtokjbdofpdncdaaDoorRun
namespace Go.Proofs.YtokjbdofpdncdaaDoor
open Go.RowKit
set_option linter.unusedVariables false
set_option maxRecDepth 100000
attribute [local go_sem] bs_size bs_get0

theorem basicType_yes {w : World} {b : Nat} {st : St} {c : UInt8} {l : List UInt8} (h : Rst w b st) (hB : Basics w b) (hc : st.str = c :: l) (hm : st.max = 0) (hl : st.str.length ≤ 9223372036854775807) (ho : st.out.length + 8 ≤ 140737488355328)
    (ht : basicText c ≠ []) :
    Calls Tryd.prog 53 #[.pointer (some ⟨b, 0, none⟩)] w (Done b w (.tuple #[]) ({ st with str := l }.put (basicText c))) := by
  obtain ⟨bm, c0, look0⟩ := hB.drew.look
  have look := look0 c
  rw [isBasic_of c ht] at look
  have c1 : w.cell? ⟨b, 1, none⟩ = some (.string (bs (c :: l))) := by rw [h.str, hc]
  have c1d : w.drew.cell? ⟨b, 1, none⟩ = some (.string (bs (c :: l))) := c1
  have hlen : ¬ ((c :: l).length : Int) < 1 := by simp only [List.length_cons]; omega
  have hlen0 : (0 : Int) < ((c :: l).length : Int) := by simp only [List.length_cons]; omega
  have hp : 0 < (bs (c :: l)).size := by rw [bs_size]; simp
  have HA := Lib.hid (advance_one h.drew hc hl)
  have HW := Lib.hid (fun (w2 : World) (o : Int) (h2 : Rst w2 b { st with str := l, off := o }) => write_any h2 hm (basicText c) (by have := basicText_short c; show st.out.length + (basicText c).length ≤ 140737488355328; omega))
  clear look0 hB h hc hl ho ht
  go_enter Tryd.func53, Tryd.ntmps53
  go_wp2
  go_region
  all_goals
    go_wp2_with (go_at_call 81; refine (HA.out).mono ?_; rintro e w1 ⟨rfl, ⟨o, hr⟩, hb1⟩)
    go_wp2_with (go_at_call 82; refine (HW.out _ _ hr).mono ?_; rintro e w2 ⟨rfl, ⟨o2, hr2⟩, hb2⟩)
    go_end0
    refine ⟨rfl, ⟨o2, ?_⟩, ((Keep.refl b w).drew.trans hb1).trans hb2⟩
    have e : ∀ (s : St) (x : List UInt8) (o o2 : Int), { ({ s with off := o }.put x) with off := o2 } = { (s.put x) with off := o2 } := fun s x o o2 => by unfold St.put; dsimp only; split <;> rfl
    exact (e { st with str := l } (basicText c) o o2) ▸ hr2
end Go.Proofs.YtokjbdofpdncdaaDoor
