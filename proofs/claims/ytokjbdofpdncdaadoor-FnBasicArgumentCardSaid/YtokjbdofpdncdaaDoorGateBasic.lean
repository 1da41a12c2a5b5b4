/- The door to basic types, down from the laws. -/
import Derived.Test.YtokjbdofpdncdaaDoorBasicWalk
import Derived.Test.YtokjbdofpdncdaaDoorArg
import Derived.WideLaws
namespace Go.Proofs.YtokjbdofpdncdaaDoor
open Go.RowKit
set_option linter.unusedVariables false
set_option maxRecDepth 100000
attribute [local go_sem] errOf bs_size bs_toList bs_get0

theorem basic_part {w : World} {s : ByteArray} {c : UInt8} {l : List UInt8} (hB : Basics w w.heap.size) (hs : s.data.toList = c :: l) (hs63 : s.size ≤ 9223372036854775807) (ht : basicText c ≠ []) :
    Calls Tryd.prog 52 #[.pointer (some ⟨w.heap.size + 3, 0, none⟩)] (runWorld w s) fun e w' =>
      PartEnd w.heap.size { orig := s, str := l, out := basicText c } true e w' ∧ Below w.heap.size w w' := by
  have h := runWorld_rst w s
  have hb := runWorld_below w s
  have hres := runWorld_res w s
  have hsz := runWorld_size w s
  have hB1 : Basics (runWorld w s) (w.heap.size + 3) := (hB.keep hb (Nat.le_refl _)).up (by omega) (by omega)
  obtain ⟨W, hW⟩ : ∃ W, runWorld w s = W := ⟨_, rfl⟩
  rw [hW] at h hb hres hsz hB1 ⊢
  clear hW
  have hcall := basicType_yes h hB1 (c := c) (l := l) hs rfl (by simpa using hs63) (by simp) ht
  rw [St.put_free rfl] at hcall
  have HC := Lib.hid hcall
  have HS := Lib.hid hsz
  have HH := Lib.hid hs
  clear hcall hsz hs hB hB1 ht
  go_enter Tryd.func52, Tryd.ntmps52
  go_wp2_with (go_at_call 53; refine (HC.out).mono ?_; rintro e w1 ⟨rfl, ⟨o, hr1⟩, hb1⟩; replace hb1 := hb1.below)
  go_end0
  exact ⟨⟨hres.keep hb1 (by omega), rfl, o, hr1⟩, hb.trans (hb1.mono (by omega))⟩

theorem basic_zz {w : World} {s : ByteArray} {c : UInt8} {l : List UInt8} (hB : Basics w w.heap.size) (hs : s.data.toList = c :: l) (hs63 : s.size ≤ 9223372036854775807) (ht : basicText c ≠ []) :
    Calls Tryd.prog 29 #[.string s] w fun e w' => e = .returned (.tuple #[.string (bs (basicText c)), .string (bs l), .nilIface]) ∧ Below w.heap.size w w' := by
  have hmf : ∀ (fn : Fn) (first cap : Array Value) (w : World), (Instr.makeFunc fn first cap).run Tryd.prog w = .ok (.func fn first cap) w := fun _ _ _ _ => rfl
  have HP := Lib.hid (basic_part hB hs hs63 ht)
  clear hB hs hs63 ht
  go_enter Tryd.func29, Tryd.ntmps29
  go_wp2_with (go_at_call 51; refine (run_ok (cap := #[]) (fun _ _ => by kernel_rfl) rfl HP.out).mono ?_; rintro e w2 ⟨rfl, w1, hb1, hb2⟩)
  go_ret3
  exact ⟨rfl, hb1.trans hb2⟩

theorem basic_impl {w : World} {s : ByteArray} {c : UInt8} {l : List UInt8} (hB : Basics w w.heap.size) (hs : s.data.toList = c :: l) (hs63 : s.size ≤ 9223372036854775807) (ht : basicText c ≠ []) :
    Calls Tryd.prog 17 #[.string s] w fun e w' => e = .returned (.tuple #[.string (bs (basicText c)), .string (bs l), .bool true]) ∧ Below w.heap.size w w' := by
  have HP := Lib.hid (basic_zz hB hs hs63 ht)
  clear hB hs hs63 ht
  go_enter Tryd.func17, Tryd.ntmps17
  go_wp2_with (go_at_call 29; refine (HP.out).mono ?_; rintro e w2 ⟨rfl, hb2⟩)
  go_ret3
  exact ⟨rfl, hb2⟩

end Go.Proofs.YtokjbdofpdncdaaDoor
