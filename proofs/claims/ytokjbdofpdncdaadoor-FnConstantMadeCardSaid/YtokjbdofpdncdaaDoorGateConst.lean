/- The door to constants, down from the laws. -/
import Derived.Test.YtokjbdofpdncdaaDoorConst
import Derived.Test.YtokjbdofpdncdaaDoorConstHole
import Derived.Test.YtokjbdofpdncdaaDoorConstReads
import Derived.Test.YtokjbdofpdncdaaDoorRun
import Derived.Test.YtokjbdofpdncdaaDoorArg
import Derived.Test.YtokjbdofpdncdaaDoorLaid
import Derived.WideLaws
namespace Go.Proofs.YtokjbdofpdncdaaDoor
open Go.RowKit Go.Lib
set_option linter.unusedVariables false
set_option maxRecDepth 100000
attribute [local go_sem] errOf bs_size bs_toList bs_get0

def ConstPart (n : Nat) (s : ByteArray) (res : Option (List UInt8 × List UInt8)) (e : Ending) (w' : World) : Prop :=
  match res with
  | some (o, r) => PartEnd n { orig := s, str := r, out := o } true e w'
  | none => PartEnd n { orig := s, str := [] } false e w'

def ConstDone (b : Nat) (w : World) (s : ByteArray) (res : Option (List UInt8 × List UInt8)) (e : Ending) (w' : World) : Prop :=
  match res with
  | some (o, r) => Done b w (.tuple #[]) { orig := s, str := r, out := o } e w'
  | none => Fell b w e w'

theorem const_call {w : World} {b : Nat} {s : ByteArray} {res : Option (List UInt8 × List UInt8)} (h : Rst w b { orig := s, str := s.data.toList }) (hP : Pow w b) (hs63 : s.size ≤ 9223372036854775000) (hr : ConstReads s.data.toList res) :
    Calls Tryd.prog 73 #[.pointer (some ⟨b, 0, none⟩)] w (ConstDone b w s res) := by
  have hl : s.data.toList.length ≤ 9223372036854775000 := by simpa using hs63
  rcases hr with ⟨c, l, m, k, neg, r, hs, hk, hkk, hsg, hx, hf, rfl⟩ | ⟨l, hs, rfl⟩ | ⟨n, t, hn, hs, rfl⟩
  · have := const_any h hs hk hkk rfl rfl hl (by simp) hP hsg hx hf
    refine this.mono fun e w' he => ?_
    cases r with
    | none => exact he
    | some p =>
      obtain ⟨v, n, r⟩ := p
      exact he
  · exact const_hole h hs rfl rfl hl (by simp)
  · exact const_back h hs rfl rfl rfl hl hn

theorem const_part {w : World} {s : ByteArray} {res : Option (List UInt8 × List UInt8)} (hP : Pow w w.heap.size) (hs63 : s.size ≤ 9223372036854775000) (hr : ConstReads s.data.toList res) :
    Calls Tryd.prog 72 #[.pointer (some ⟨w.heap.size + 3, 0, none⟩)] (runWorld w s) fun e w' => ConstPart w.heap.size s res e w' ∧ Below w.heap.size w w' := by
  have h := runWorld_rst w s
  have hb := runWorld_below w s
  have hres := runWorld_res w s
  have hsz := runWorld_size w s
  have hP1 : Pow (runWorld w s) (w.heap.size + 3) := (hP.keep hb (Nat.le_refl _)).up (by omega) (by omega)
  obtain ⟨W, hW⟩ : ∃ W, runWorld w s = W := ⟨_, rfl⟩
  rw [hW] at h hb hres hsz hP1 ⊢
  clear hW
  have HC := Lib.hid (const_call h hP1 hs63 hr)
  have HS := Lib.hid hsz
  clear hsz hP hP1 hr h hs63
  cases res with
  | none =>
    go_enter Tryd.func72, Tryd.ntmps72
    go_wp2_with (go_at_call 73; refine (HC.out).mono ?_; rintro e w1 ⟨⟨m, o, rfl⟩, hb1⟩)
    exact ⟨rfl, ⟨hres.keep hb1.below (by omega), m, o, rfl⟩, hb.trans (hb1.below.mono (by omega))⟩
  | some p =>
    obtain ⟨o, r⟩ := p
    go_enter Tryd.func72, Tryd.ntmps72
    go_wp2_with (go_at_call 73; refine (HC.out).mono ?_; rintro e w1 ⟨rfl, ⟨o, hr1⟩, hb1⟩)
    go_end0
    exact ⟨⟨hres.keep hb1.below (by omega), rfl, o, hr1⟩, hb.trans (hb1.below.mono (by omega))⟩

theorem const_part_yes {w : World} {s : ByteArray} {o r : List UInt8} (hP : Pow w w.heap.size) (hs63 : s.size ≤ 9223372036854775000) (hr : ConstReads s.data.toList (some (o, r))) :
    Calls Tryd.prog 72 #[.pointer (some ⟨w.heap.size + 3, 0, none⟩)] (runWorld w s) fun e w' => PartEnd w.heap.size { orig := s, str := r, out := o } true e w' ∧ Below w.heap.size w w' := const_part hP hs63 hr
theorem const_part_no {w : World} {s : ByteArray} (hP : Pow w w.heap.size) (hs63 : s.size ≤ 9223372036854775000) (hr : ConstReads s.data.toList none) :
    Calls Tryd.prog 72 #[.pointer (some ⟨w.heap.size + 3, 0, none⟩)] (runWorld w s) fun e w' => PartEnd w.heap.size { orig := s, str := [] } false e w' ∧ Below w.heap.size w w' := const_part hP hs63 hr

theorem const_zz_yes {w : World} {s : ByteArray} {o r : List UInt8} (hP : Pow w w.heap.size) (hs63 : s.size ≤ 9223372036854775000) (hr : ConstReads s.data.toList (some (o, r))) :
    Calls Tryd.prog 44 #[.string s] w fun e w' => e = .returned (.tuple #[.string (bs o), .string (bs r), .nilIface]) ∧ Below w.heap.size w w' := by
  have hmf : ∀ (fn : Fn) (first cap : Array Value) (w : World), (Instr.makeFunc fn first cap).run Tryd.prog w = .ok (.func fn first cap) w := fun _ _ _ _ => rfl
  have HP := Lib.hid (const_part_yes hP hs63 hr)
  clear hP hr hs63
  go_enter Tryd.func44, Tryd.ntmps44
  go_wp2_with (go_at_call 51; refine (run_ok (cap := #[]) (fun _ _ => by kernel_rfl) rfl HP.out).mono ?_; rintro e w2 ⟨rfl, w1, hb1, hb2⟩)
  go_ret3
  exact ⟨rfl, hb1.trans hb2⟩
theorem const_zz_no {w : World} {s : ByteArray} (hP : Pow w w.heap.size) (hs63 : s.size ≤ 9223372036854775000) (hr : ConstReads s.data.toList none) :
    Calls Tryd.prog 44 #[.string s] w fun e w' => (∃ m o, e = .returned (.tuple #[.string (bs []), .string (bs []), errOf m o])) ∧ Below w.heap.size w w' := by
  have hmf : ∀ (fn : Fn) (first cap : Array Value) (w : World), (Instr.makeFunc fn first cap).run Tryd.prog w = .ok (.func fn first cap) w := fun _ _ _ _ => rfl
  have HP := Lib.hid (const_part_no hP hs63 hr)
  clear hP hr hs63
  go_enter Tryd.func44, Tryd.ntmps44
  go_wp2_with (go_at_call 51; refine (run_fell (cap := #[]) (fun _ _ => by kernel_rfl) rfl HP.out).mono ?_; rintro e w2 ⟨⟨m, o, rfl⟩, w1, hb1, hb2⟩)
  go_ret3
  exact ⟨⟨m, o, rfl⟩, hb1.trans hb2⟩

theorem const_impl_yes {w : World} {s : ByteArray} {o r : List UInt8} (hP : Pow w w.heap.size) (hs63 : s.size ≤ 9223372036854775000) (hr : ConstReads s.data.toList (some (o, r))) :
    Calls Tryd.prog 26 #[.string s] w fun e w' => e = .returned (.tuple #[.string (bs o), .string (bs r), .bool true]) ∧ Below w.heap.size w w' := by
  have HP := Lib.hid (const_zz_yes hP hs63 hr)
  clear hP hr hs63
  go_enter Tryd.func26, Tryd.ntmps26
  go_wp2_with (go_at_call 44; refine (HP.out).mono ?_; rintro e w2 ⟨rfl, hb2⟩)
  go_ret3
  exact ⟨rfl, hb2⟩
theorem const_impl_no {w : World} {s : ByteArray} (hP : Pow w w.heap.size) (hs63 : s.size ≤ 9223372036854775000) (hr : ConstReads s.data.toList none) :
    Calls Tryd.prog 26 #[.string s] w fun e w' => e = .returned (.tuple #[.string (bs []), .string (bs []), .bool false]) ∧ Below w.heap.size w w' := by
  have HP := Lib.hid (const_zz_no hP hs63 hr)
  clear hP hr hs63
  go_enter Tryd.func26, Tryd.ntmps26
  go_wp2_with (go_at_call 44; refine (HP.out).mono ?_; rintro e w2 ⟨⟨m, o, rfl⟩, hb2⟩)
  go_ret3
  exact ⟨rfl, hb2⟩

theorem constIs_yes {w : World} {c l o : List UInt8} (hP : Pow w w.heap.size) (hl : c.length + l.length ≤ 9000000000) (hr : ConstReads (c ++ l) (some (o, l))) :
    Calls Tryd.prog 13 #[.string (bs c), .string (bs l), .string (bs o)] w fun e w' => e = .returned (.bool true) ∧ Below w.heap.size w w' := by
  have HP := Lib.hid (const_impl_yes (s := bs (c ++ l)) hP (by rw [bs_size]; simp; omega) (by rw [bs_data]; exact hr))
  have ha : ∀ W, (Op.stringOp .add (bs c) (bs l)).run Tryd.prog W = .ok (.string (bs (c ++ l))) W := add_bs c l (by omega)
  have e1 : (o == o) = true := by simp
  have e2 : (l == l) = true := by simp
  clear hP hr hl
  go_enter Tryd.func13, Tryd.ntmps13
  go_wp2_with (go_at_call 26; refine (HP.out).mono ?_; rintro e w2 ⟨rfl, hb2⟩)
  go_ret
  exact ⟨rfl, hb2⟩
end Go.Proofs.YtokjbdofpdncdaaDoor
