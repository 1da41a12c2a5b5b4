/- The two doors to numbers, down from the thin package. -/
import Derived.Test.YtjlnnedofnefkaaDoorRun
import Derived.Test.YtjlnnedofnefkaaDoorDec
import Derived.WideLaws
namespace Go.Proofs.YtjlnnedofnefkaaDoor
open Go.RowKit
set_option linter.unusedVariables false
set_option maxRecDepth 100000

attribute [local go_sem] errOf

/-- What a variable holds behind a part that reads a number into it. -/
def numVal (r : Option (Int × List UInt8)) (x : Value) : Value :=
  match r with
  | some (n, _) => .int .i64 n
  | none => x
/-- What the package's door returns. -/
def ZZEnd (r : Option (Int × List UInt8)) (e : Ending) : Prop :=
  match r with
  | some (n, l) => e = .returned (.tuple #[.int .i64 n, .string (bs l), .nilIface])
  | none => ∃ m o, e = .returned (.tuple #[.int .i64 0, .string (bs []), errOf m o])
/-- What the thin package's door returns. -/
def NumEnd (r : Option (Int × List UInt8)) (e : Ending) : Prop :=
  match r with
  | some (n, l) => e = .returned (.tuple #[.int .i64 n, .string (bs l), .bool true])
  | none => e = .returned (.tuple #[.int .i64 0, .string (bs []), .bool false])
/-- The reader behind it. -/
def numSt (s : ByteArray) (r : Option (Int × List UInt8)) : St := { orig := s, str := (r.map (·.2)).getD [] }

theorem decimal_part {w : World} {c : Nat} {s : ByteArray} {x : Value} {r : Option (Int × List UInt8)} (hr : dec s.data.toList = r) (hc : Blk w c 3 #[x]) (hs : s.size ≤ 9223372036854775807) :
    Calls Tryd.prog 36 #[.pointer (some ⟨w.heap.size + 3, 0, none⟩), .pointer (some ⟨c, 0, none⟩)] (runWorld w s) fun e w' =>
      PartEnd w.heap.size (numSt s r) r.isSome e w' ∧
      (Blk w' c 3 #[numVal r x] ∧ Below c w w' ∧ w.heap.size ≤ w'.heap.size) := by
  have hlt := hc.lt
  have h := runWorld_rst w s
  have hB := runWorld_below w s
  have hres := runWorld_res w s
  have hsz := runWorld_size w s
  have hc1 : Blk (runWorld w s) c 3 #[x] := hc.below hB hlt
  obtain ⟨W, hW⟩ : ∃ W, runWorld w s = W := ⟨_, rfl⟩
  rw [hW] at h hB hres hsz hc1 ⊢
  clear hW
  have hcall := decimal_any h (by simpa using hs)
  simp only at hcall
  rw [hr] at hcall
  have HC := Lib.hid hcall
  have hr' := Lib.hid hr
  have HS := Lib.hid hsz
  clear hcall hr hsz
  go_enter Tryd.func36, Tryd.ntmps36
  cases r with
  | none =>
    go_wp2_with (go_at_call 37; refine (HC.out).mono ?_; rintro e w1 ⟨⟨m, o, rfl⟩, hb1⟩)
    refine ⟨rfl, ⟨hres.keep hb1 (by omega), m, o, rfl⟩, hc1.below hb1 (by omega), (hB.mono (by omega)).trans (hb1.mono (by omega)), Nat.le_trans hB.size hb1.size⟩
  | some p =>
    obtain ⟨n, l⟩ := p
    go_wp2_with (go_at_call 37; refine (HC.out).mono ?_; rintro e w1 ⟨rfl, ⟨o, hr1⟩, hb1⟩; have hcc := hc1.below hb1 (by omega); have e1 : w1.cell? ⟨c, 0, none⟩ = some x := (hcc.cell 0).trans rfl; have e2 := hcc.frozen 0)
    go_end0
    exact ⟨⟨(hres.keep hb1 (by omega)).far (p := ⟨c, 0, none⟩) hlt _, rfl, o, hr1.far (p := ⟨c, 0, none⟩) (show c < w.heap.size + 3 by omega) _⟩, hcc.set_ 0 _,
      ((hB.mono (by omega)).trans (hb1.mono (by omega))).setCell (p := ⟨c, 0, none⟩) (Nat.le_refl c) _, by rw [World.size_setCell]; exact Nat.le_trans hB.size hb1.size⟩

theorem decimal_zz {s : ByteArray} {r : Option (Int × List UInt8)} (hr : dec s.data.toList = r) (hs : s.size ≤ 9223372036854775807) (w : World) :
    Calls Tryd.prog 26 #[.string s] w fun e w' =>
      ZZEnd r e ∧ Below w.heap.size w w' := by
  have hmf : ∀ (fn : Fn) (first cap : Array Value) (w : World), (Instr.makeFunc fn first cap).run Tryd.prog w = .ok (.func fn first cap) w := fun _ _ _ _ => rfl
  have hpart := decimal_part (w := w.alloc (.cells #[.int .i64 0] 3)) (c := w.heap.size) hr (Blk.new _ _ _) hs
  have HP := Lib.hid hpart
  have hbb : ∀ w1 w2 : World, Below w.heap.size (w.alloc (.cells #[.int .i64 0] 3)) w1 → Below (w.alloc (.cells #[.int .i64 0] 3)).heap.size w1 w2 → Below w.heap.size w w2 := fun w1 w2 h1 h2 =>
    (((Below.refl _ _).alloc (Nat.le_refl _) _).trans h1).trans (h2.mono (by simp))
  clear hpart hr
  cases r with
  | none =>
    go_enter Tryd.func26, Tryd.ntmps26
    go_wp2_with (go_at_call 35; refine (run_fell (cap := #[.pointer (some ⟨w.heap.size, 0, none⟩)]) (fun _ _ => by kernel_rfl) rfl HP.out).mono ?_; rintro e w2 ⟨⟨m, o, rfl⟩, w1, ⟨hc1, hb1, hz1⟩, hb2⟩; have hcc : Blk w2 w.heap.size 3 #[.int .i64 0] := hc1.below hb2 (by simp); have e1 : w2.cell? ⟨w.heap.size, 0, none⟩ = some (.int .i64 0) := (hcc.cell 0).trans rfl; have e2 := hcc.frozen 0)
    refine bodyPost_ret (v := .tuple #[.int .i64 0, .string (bs []), errOf m o]) ?_ rfl ⟨⟨m, o, rfl⟩, ?_⟩
    · have e3 := (((hcc.set_ 0 (.int .i64 0)).set_ 0 (.int .i64 0)).cell 0).trans rfl
      simp [results, Tryd.results26, go_sem, e3]
    · exact ((hbb _ _ hb1 hb2).setCell (p := ⟨w.heap.size, 0, none⟩) (Nat.le_refl _) _).setCell (p := ⟨w.heap.size, 0, none⟩) (Nat.le_refl _) _
  | some p =>
    obtain ⟨n, l⟩ := p
    go_enter Tryd.func26, Tryd.ntmps26
    go_wp2_with (go_at_call 35; refine (run_ok (cap := #[.pointer (some ⟨w.heap.size, 0, none⟩)]) (fun _ _ => by kernel_rfl) rfl HP.out).mono ?_; rintro e w2 ⟨rfl, w1, ⟨hc1, hb1, hz1⟩, hb2⟩; have hcc : Blk w2 w.heap.size 3 #[.int .i64 n] := hc1.below hb2 (by simp); have e1 : w2.cell? ⟨w.heap.size, 0, none⟩ = some (.int .i64 n) := (hcc.cell 0).trans rfl; have e2 := hcc.frozen 0)
    refine bodyPost_ret (v := .tuple #[.int .i64 n, .string (bs l), .nilIface]) ?_ rfl ⟨rfl, ?_⟩
    · have e3 := ((hcc.set_ 0 (.int .i64 n)).cell 0).trans rfl
      simp [results, Tryd.results26, go_sem, e3, numSt]
    · exact (hbb _ _ hb1 hb2).setCell (p := ⟨w.heap.size, 0, none⟩) (Nat.le_refl _) _

theorem decimal_impl {s : ByteArray} {r : Option (Int × List UInt8)} (hr : dec s.data.toList = r) (hs : s.size ≤ 9223372036854775807) (w : World) :
    Calls Tryd.prog 14 #[.string s] w fun e w' => NumEnd r e ∧ Below w.heap.size w w' := by
  have hz := fun W => decimal_zz hr hs W
  have HZ := Lib.hid hz
  clear hz hr
  cases r with
  | none =>
    go_enter Tryd.func14, Tryd.ntmps14
    go_wp2_with (go_at_call 26; refine (HZ.out _).mono ?_; rintro e w2 ⟨⟨m, o, rfl⟩, hb2⟩)
    go_ret3
    exact ⟨rfl, hb2⟩
  | some p =>
    obtain ⟨n, l⟩ := p
    go_enter Tryd.func14, Tryd.ntmps14
    go_wp2_with (go_at_call 26; refine (HZ.out _).mono ?_; rintro e w2 ⟨rfl, hb2⟩)
    go_ret3
    exact ⟨rfl, hb2⟩
end Go.Proofs.YtjlnnedofnefkaaDoor
