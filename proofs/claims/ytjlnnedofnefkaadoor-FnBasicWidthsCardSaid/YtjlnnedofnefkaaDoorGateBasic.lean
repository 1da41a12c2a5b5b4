/- The door to basic types, down from the laws. -/
import Derived.Test.YtjlnnedofnefkaaDoorBasicWalk
import Derived.Test.YtjlnnedofnefkaaDoorArg
import Derived.WideLaws
namespace Go.Proofs.YtjlnnedofnefkaaDoor
open Go.RowKit
set_option linter.unusedVariables false
set_option maxRecDepth 100000
attribute [local go_sem] errOf bs_size bs_toList bs_get0

theorem basic_part {w : World} {s : ByteArray} {c : UInt8} {l : List UInt8} (hB : Basics w w.heap.size) (hs : s.data.toList = c :: l) (hs63 : s.size ≤ 9223372036854775807) (ht : basicText c ≠ []) :
    Calls Tryd.prog 47 #[.pointer (some ⟨w.heap.size + 3, 0, none⟩)] (runWorld w s) fun e w' =>
      PartEnd w.heap.size { orig := s, str := l, out := basicText c } true e w' ∧ Below w.heap.size w w' := by
  have h := runWorld_rst w s
  have hb := runWorld_below w s
  have hres := runWorld_res w s
  have hsz := runWorld_size w s
  have hB1 : Basics (runWorld w s) (w.heap.size + 3) := (hB.keep hb (Nat.le_refl _)).up (by omega) (by omega)
  obtain ⟨W, hW⟩ : ∃ W, runWorld w s = W := ⟨_, rfl⟩
  rw [hW] at h hb hres hsz hB1 ⊢
  clear hW
  have hcall := basicType_yes h hB1 (c := c) (l := l) hs rfl (by simpa using hs63) (by simp) ht
  rw [St.put_free rfl] at hcall
  have HC := Lib.hid hcall
  have HS := Lib.hid hsz
  have HH := Lib.hid hs
  clear hcall hsz hs hB hB1 ht
  go_enter Tryd.func47, Tryd.ntmps47
  go_wp2_with (go_at_call 48; refine (HC.out).mono ?_; rintro e w1 ⟨rfl, ⟨o, hr1⟩, hb1⟩)
  go_end0
  exact ⟨⟨hres.keep hb1 (by omega), rfl, o, hr1⟩, hb.trans (hb1.mono (by omega))⟩

theorem basic_zz {w : World} {s : ByteArray} {c : UInt8} {l : List UInt8} (hB : Basics w w.heap.size) (hs : s.data.toList = c :: l) (hs63 : s.size ≤ 9223372036854775807) (ht : basicText c ≠ []) :
    Calls Tryd.prog 34 #[.string s] w fun e w' => e = .returned (.tuple #[.string (bs (basicText c)), .string (bs l), .nilIface]) ∧ Below w.heap.size w w' := by
  have hmf : ∀ (fn : Fn) (first cap : Array Value) (w : World), (Instr.makeFunc fn first cap).run Tryd.prog w = .ok (.func fn first cap) w := fun _ _ _ _ => rfl
  have HP := Lib.hid (basic_part hB hs hs63 ht)
  clear hB hs hs63 ht
  go_enter Tryd.func34, Tryd.ntmps34
  go_wp2_with (go_at_call 35; refine (run_ok (cap := #[]) (fun _ _ => by kernel_rfl) rfl HP.out).mono ?_; rintro e w2 ⟨rfl, w1, hb1, hb2⟩)
  go_ret3
  exact ⟨rfl, hb1.trans hb2⟩

theorem basic_impl {w : World} {s : ByteArray} {c : UInt8} {l : List UInt8} (hB : Basics w w.heap.size) (hs : s.data.toList = c :: l) (hs63 : s.size ≤ 9223372036854775807) (ht : basicText c ≠ []) :
    Calls Tryd.prog 25 #[.string s] w fun e w' => e = .returned (.tuple #[.string (bs (basicText c)), .string (bs l), .bool true]) ∧ Below w.heap.size w w' := by
  have HP := Lib.hid (basic_zz hB hs hs63 ht)
  clear hB hs hs63 ht
  go_enter Tryd.func25, Tryd.ntmps25
  go_wp2_with (go_at_call 34; refine (HP.out).mono ?_; rintro e w2 ⟨rfl, hb2⟩)
  go_ret3
  exact ⟨rfl, hb2⟩

theorem basicIs_yes {w : World} {c : UInt8} {l : List UInt8} (hB : Basics w w.heap.size) (hl : l.length ≤ 2147483647) (ht : basicText c ≠ []) :
    Calls Tryd.prog 9 #[.int .u8 (c.toNat : Int), .string (bs l), .string (bs (basicText c))] w fun e w' => e = .returned (.bool true) ∧ Below w.heap.size w w' := by
  have HP := Lib.hid (fun (W : World) (hb : Below w.heap.size w W) => basic_impl (w := W) (s := bs (c :: l)) (c := c) (l := l) ((hB.keep hb (Nat.le_refl _)).up hb.size (Nat.le_refl _)) (by rw [bs_data]) (by rw [bs_size]; simp; omega) ht)
  have ha : ∀ W, (Op.stringOp .add (bs [c]) (bs l)).run Tryd.prog W = .ok (.string (bs (c :: l))) W := add_bs [c] l (by simp; omega)
  have e1 : (basicText c == basicText c) = true := by simp
  have e2 : (l == l) = true := by simp
  have hcv : (convert 29 9 (.slice (some ⟨w.heap.size, 0, none⟩) 1 1)).run Tryd.prog (w.alloc (.cells #[.int .u8 (c.toNat : Int)] 5)) = .ok (.string (bs [c])) (w.alloc (.cells #[.int .u8 (c.toNat : Int)] 5)) :=
    Bytes.convert (l := [c]) ⟨rfl, .inr ⟨_, 0, rfl, by simp, fun i hi => by
      have : i = 0 := by simp at hi; omega
      subst this
      exact (Blk.new w 5 #[.int .u8 (c.toNat : Int)]).cell 0⟩⟩ 1 Tryd.underlying29 Tryd.underlying5 Tryd.underlying9
  have HB := Lib.hid (show Below w.heap.size w (w.alloc (.cells #[.int .u8 (c.toNat : Int)] 5)) from (Below.refl _ _).alloc (Nat.le_refl _) _)
  clear hB ht hl
  go_enter Tryd.func9, Tryd.ntmps9
  go_wp2_with (go_at_call 25; refine (HP.out _ HB.out).mono ?_; rintro e w2 ⟨rfl, hb2⟩)
  go_ret
  exact ⟨rfl, HB.out.trans (hb2.mono HB.out.size)⟩
end Go.Proofs.YtjlnnedofnefkaaDoor
