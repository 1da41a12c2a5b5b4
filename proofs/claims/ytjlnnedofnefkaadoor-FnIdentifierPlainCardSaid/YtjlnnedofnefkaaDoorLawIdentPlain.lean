/- FnIdentifierPlain: the walk. -/
import Derived.Test.YtjlnnedofnefkaaDoorCounted
import Derived.Test.YtjlnnedofnefkaaDoorGateIdent
namespace Go.Proofs.YtjlnnedofnefkaaDoor
open Go.RowKit Go.Lib
set_option linter.unusedVariables false
set_option maxRecDepth 100000
attribute [local go_sem] bs_size bs_toList

set_option maxHeartbeats 2000000 in
theorem identPlain_walk (w : World) (hp : Pow w w.heap.size) (A : Option Addr) (n c : Nat) (l : List UInt8) (h : Bytes w A n l) (hn : n ≤ maxLen ∧ n ≤ c) (u : Bool) (A' : Option Addr) (n' c' : Nat) (l' : List UInt8) (h' : Bytes w A' n' l') (hn' : n' ≤ maxLen ∧ n' ≤ c') :
    Calls Tryd.prog 6 #[.slice A n c, .bool u, .slice A' n' c'] w fun e w' => e = .returned (.bool true) ∧ Below w.heap.size w w' := by
  unfold maxLen at hn hn'
  by_cases hz : 2147483647 < n
  · go_enter Tryd.func6, Tryd.ntmps6
    go_wp2_with fail
    go_ret
    exact ⟨rfl, Below.refl _ _⟩
  by_cases hz' : 2147483647 < n'
  · go_enter Tryd.func6, Tryd.ntmps6
    go_wp2_with fail
    go_ret
    exact ⟨rfl, Below.refl _ _⟩
  have hlen' : l'.length ≤ 2147483647 := by rw [h'.1]; omega
  have HCV := Lib.hid (fun (W : World) (hb : Below w.heap.size w W) => (h'.below hb).convert c' (P := Tryd.prog) Tryd.underlying29 Tryd.underlying5 Tryd.underlying9)
  have hI := fun W : World => idCut_any (w := W) (A := A) hn.2
  have hW := anWord_any (cap := c) (h.take (min n 1000) (by omega)) (by omega)
  have hlen : (l.take (min n 1000)).length ≤ 1000 := by simp; omega
  generalize min n 1000 = m at hI hW hlen
  generalize l.take m = k at hW hlen
  have hkl := wordOf_length k hlen
  obtain ⟨hid1, hid2⟩ := identAll_counted (k := 0) (by decide) (wordOf_between u k) (wordOf_pos k) (wordOf_plain k) (by omega) l'
  have e0 : disOf 0 ++ (counted (if u then [95] else []) (wordOf k) ++ l') = counted (if u then [95] else []) (wordOf k) ++ l' := rfl
  rw [e0] at hid1 hid2
  have hcl : (counted (if u then [95] else []) (wordOf k)).length ≤ 2000 := by
    unfold counted
    have := decDigits_len 9 (wordOf k).length (by omega)
    cases u <;> simp <;> omega
  have HC := Lib.hid (fun (W : World) (hb : Below w.heap.size w W) => anCounted_any (hp.keep hb (Nat.le_refl _)) u (wordOf k) (by omega))
  generalize wordOf k = t at hW hid1 HC hcl hid2
  generalize counted (if u then [95] else []) t = s at hid1 HC hcl hid2
  have hadd : ∀ W, (Op.stringOp .add (bs s) (bs l')).run Tryd.prog W = .ok (.string (bs (s ++ l'))) W := add_bs _ _ (by omega)
  have HD := Lib.hid (fun W : World => doorIdentifier_yes (s := bs (s ++ l')) (n := 0) (nm := t) (l := l') (by rw [bs_data]; exact hid1) (by rw [bs_data]; exact hid2) (by rw [bs_size]; simp; omega) W)
  have HI := Lib.hid hI
  have HW := Lib.hid hW
  clear hI hW h h' hp hid1 hid2 hcl hlen hkl hn hn' e0
  go_enter Tryd.func6, Tryd.ntmps6
  go_wp2_with (first
    | (go_at_call 18; refine (HI.out _).mono ?_; rintro e w2 ⟨rfl, rfl⟩)
    | (go_at_call 17; refine (HW.out).mono ?_; rintro e w1 ⟨rfl, hb1⟩))
  have hcv1 := HCV.out w1.drew hb1.drew
  go_region_with (first
    | (go_at_call 20; refine (HC.out _ hb1.drew).mono ?_; rintro e w2 ⟨rfl, hb2⟩; replace hb2 := hb1.drew.trans (hb2.mono hb1.drew.size); have hcv2 := HCV.out w2 hb2)
    | (go_at_call 19; refine (HD.out _).mono ?_; rintro e w3 ⟨rfl, hb3⟩; replace hb3 := hb2.trans (hb3.mono hb2.size)))
  all_goals go_wp2
  all_goals go_ret
  all_goals exact ⟨rfl, hb3⟩
end Go.Proofs.YtjlnnedofnefkaaDoor
