/- The door to identifiers, down from the thin package. -/
import Derived.Test.YtjlnnedofnefkaaDoorRun
import Derived.Test.YtjlnnedofnefkaaDoorIdent2
import Derived.Test.YtjlnnedofnefkaaDoorGateNum
import Derived.Test.YtjlnnedofnefkaaDoorArg
namespace Go.Proofs.YtjlnnedofnefkaaDoor
open Go.RowKit
set_option linter.unusedVariables false
set_option maxRecDepth 100000
attribute [local go_sem] errOf

def idSt (s : ByteArray) (r : Option (Int × List UInt8 × List UInt8)) : St := { orig := s, str := (r.map (·.2.2)).getD [] }
def idNum (r : Option (Int × List UInt8 × List UInt8)) (x : Value) : Value :=
  match r with
  | some (n, _, _) => .int .i64 n
  | none => x
def idName (r : Option (Int × List UInt8 × List UInt8)) (x : Value) : Value :=
  match r with
  | some (_, n, _) => .string (bs n)
  | none => x

theorem ident_part {w : World} {c : Nat} {s : ByteArray} {x y : Value} {r : Option (Int × List UInt8 × List UInt8)} (hr : identAll s.data.toList = r) (hu : noUIn s.data.toList) (hc : Blk w c 2 #[x]) (hd : Blk w (c + 1) 9 #[y]) (hs : s.size ≤ 9223372036854775807) :
    Calls Tryd.prog 45 #[.pointer (some ⟨w.heap.size + 3, 0, none⟩), .pointer (some ⟨c, 0, none⟩), .pointer (some ⟨c + 1, 0, none⟩)] (runWorld w s) fun e w' =>
      PartEnd w.heap.size (idSt s r) r.isSome e w' ∧
      (Blk w' c 2 #[idNum r x] ∧ Blk w' (c + 1) 9 #[idName r y] ∧ Below c w w' ∧ w.heap.size ≤ w'.heap.size) := by
  have hlt := hc.lt
  have hlt2 := hd.lt
  have h := runWorld_rst w s
  have hB := runWorld_below w s
  have hres := runWorld_res w s
  have hsz := runWorld_size w s
  have hc1 : Blk (runWorld w s) c 2 #[x] := hc.below hB hlt
  have hd1 : Blk (runWorld w s) (c + 1) 9 #[y] := hd.below hB hlt2
  obtain ⟨W, hW⟩ : ∃ W, runWorld w s = W := ⟨_, rfl⟩
  rw [hW] at h hB hres hsz hc1 hd1 ⊢
  clear hW
  have hcall := identifier_any h hu (by simpa using hs)
  simp only at hcall
  rw [hr] at hcall
  have HC := Lib.hid hcall
  have HS := Lib.hid hsz
  clear hcall hr hsz hu
  have n1 : ¬ c = c + 1 := by omega
  have n2 : ¬ c + 1 = c := by omega
  go_enter Tryd.func45, Tryd.ntmps45
  cases r with
  | none =>
    go_wp2_with (go_at_call 46; refine (HC.out).mono ?_; rintro e w1 ⟨⟨m, o, rfl⟩, hb1⟩)
    refine ⟨rfl, ⟨hres.keep hb1 (by omega), m, o, rfl⟩, hc1.below hb1 (by omega), hd1.below hb1 (by omega), (hB.mono (by omega)).trans (hb1.mono (by omega)), Nat.le_trans hB.size hb1.size⟩
  | some p =>
    obtain ⟨n, nm, l⟩ := p
    go_wp2_with (go_at_call 46; refine (HC.out).mono ?_; rintro e w1 ⟨rfl, ⟨o, hr1⟩, hb1⟩; have hcc := hc1.below hb1 (by omega); have hdd := hd1.below hb1 (by omega); have e1 : w1.cell? ⟨c, 0, none⟩ = some x := (hcc.cell 0).trans rfl; have e2 := hcc.frozen 0; have e3 : w1.cell? ⟨c + 1, 0, none⟩ = some y := (hdd.cell 0).trans rfl; have e4 := hdd.frozen 0)
    go_end0
    exact ⟨⟨((hres.keep hb1 (by omega)).far (p := ⟨c, 0, none⟩) hlt _).far (p := ⟨c + 1, 0, none⟩) hlt2 _, rfl, o, (hr1.far (p := ⟨c, 0, none⟩) (show c < w.heap.size + 3 by omega) _).far (p := ⟨c + 1, 0, none⟩) (show c + 1 < w.heap.size + 3 by omega) _⟩,
      (hcc.set_ 0 _).far (p := ⟨c + 1, 0, none⟩) n1 _, (hdd.far (p := ⟨c, 0, none⟩) n2 _).set_ 0 _,
      (((hB.mono (by omega)).trans (hb1.mono (by omega))).setCell (p := ⟨c, 0, none⟩) (Nat.le_refl c) _).setCell (p := ⟨c + 1, 0, none⟩) (Nat.le_succ c) _, by rw [World.size_setCell, World.size_setCell]; exact Nat.le_trans hB.size hb1.size⟩

def ZZIdEnd (r : Option (Int × List UInt8 × List UInt8)) (e : Ending) : Prop :=
  match r with
  | some (n, nm, l) => e = .returned (.tuple #[.int .i64 n, .string (bs nm), .string (bs l), .nilIface])
  | none => ∃ m o, e = .returned (.tuple #[.int .i64 0, .string (bs []), .string (bs []), errOf m o])
def IdEnd (r : Option (Int × List UInt8 × List UInt8)) (e : Ending) : Prop :=
  match r with
  | some (n, nm, l) => e = .returned (.tuple #[.int .i64 n, .string (bs nm), .string (bs l), .bool true])
  | none => e = .returned (.tuple #[.int .i64 0, .string (bs []), .string (bs []), .bool false])

set_option maxHeartbeats 1000000 in
theorem ident_zz {s : ByteArray} {r : Option (Int × List UInt8 × List UInt8)} (hr : identAll s.data.toList = r) (hu : noUIn s.data.toList) (hs : s.size ≤ 9223372036854775807) (w : World) :
    Calls Tryd.prog 33 #[.string s] w fun e w' => ZZIdEnd r e ∧ Below w.heap.size w w' := by
  have hmf : ∀ (fn : Fn) (first cap : Array Value) (w : World), (Instr.makeFunc fn first cap).run Tryd.prog w = .ok (.func fn first cap) w := fun _ _ _ _ => rfl
  obtain ⟨W, hW⟩ : ∃ W, (w.alloc (.cells #[.int .i64 0] 2)).alloc (.cells #[.string (bs [])] 9) = W := ⟨_, rfl⟩
  have hWc : Blk W w.heap.size 2 #[.int .i64 0] := by rw [← hW]; exact (Blk.new _ _ _).alloc _
  have hWd : Blk W (w.heap.size + 1) 9 #[.string (bs [])] := by rw [← hW]; exact (Blk.new _ _ _).at_ (by simp only [World.size_alloc])
  have hWb : Below w.heap.size w W := by rw [← hW]; exact ((Below.refl _ _).alloc (Nat.le_refl _) _).alloc (by simp only [World.size_alloc]; omega) _
  have hWs : W.heap.size = w.heap.size + 2 := by rw [← hW]; simp only [World.size_alloc]
  have hpart := ident_part (w := W) (c := w.heap.size) hr hu hWc hWd hs
  rw [hWs] at hpart
  have HP := Lib.hid (show Calls Tryd.prog 35 #[.string s, .func (.func 45) #[] #[.pointer (some ⟨w.heap.size, 0, none⟩), .pointer (some ⟨w.heap.size + 1, 0, none⟩)]] W fun e w2 =>
      (match r.isSome with
        | true => e = .returned (.tuple #[.string (bs []), .string (bs (idSt s r).str), .nilIface])
        | false => ∃ m o, e = .returned (.tuple #[.string (bs []), .string (bs []), errOf m o])) ∧
      Blk w2 w.heap.size 2 #[idNum r (.int .i64 0)] ∧ Blk w2 (w.heap.size + 1) 9 #[idName r (.string (bs []))] ∧ Below w.heap.size w w2 from by
    have fin : ∀ w1 w2 : World, (Blk w1 w.heap.size 2 #[idNum r (.int .i64 0)] ∧ Blk w1 (w.heap.size + 1) 9 #[idName r (.string (bs []))] ∧ Below w.heap.size W w1 ∧ w.heap.size + 2 ≤ w1.heap.size) → Below W.heap.size w1 w2 →
        Blk w2 w.heap.size 2 #[idNum r (.int .i64 0)] ∧ Blk w2 (w.heap.size + 1) 9 #[idName r (.string (bs []))] ∧ Below w.heap.size w w2 := fun w1 w2 ⟨a, b, c, d⟩ hb =>
      ⟨a.below hb (by omega), b.below hb (by omega), (hWb.trans c).trans (hb.mono (by omega))⟩
    have hs2 : w.heap.size + 2 + 3 = W.heap.size + 3 := by omega
    rw [hs2, ← hWs] at hpart
    cases r with
    | none =>
      refine (run_fell (cap := #[.pointer (some ⟨w.heap.size, 0, none⟩), .pointer (some ⟨w.heap.size + 1, 0, none⟩)]) (fun _ _ => by kernel_rfl) rfl hpart).mono ?_
      rintro e w2 ⟨he, w1, h1, hb⟩
      rw [hWs] at h1
      exact ⟨he, fin w1 w2 h1 hb⟩
    | some p =>
      refine (run_ok (cap := #[.pointer (some ⟨w.heap.size, 0, none⟩), .pointer (some ⟨w.heap.size + 1, 0, none⟩)]) (fun _ _ => by kernel_rfl) rfl hpart).mono ?_
      rintro e w2 ⟨he, w1, h1, hb⟩
      rw [hWs] at h1
      exact ⟨he, fin w1 w2 h1 hb⟩)
  clear hpart hWc hWd hWb hWs hr hu
  have n1 : ¬ w.heap.size = w.heap.size + 1 := by omega
  have n2 : ¬ w.heap.size + 1 = w.heap.size := by omega
  subst hW
  cases r with
  | none =>
    go_enter Tryd.func33, Tryd.ntmps33
    go_wp2_with (go_at_call 35; refine (HP.out).mono ?_; rintro e w2 ⟨⟨m, o, rfl⟩, hcc, hdd, hb2⟩; have e1 : w2.cell? ⟨w.heap.size, 0, none⟩ = some (.int .i64 0) := (hcc.cell 0).trans rfl; have e2 := hcc.frozen 0; have e3 : w2.cell? ⟨w.heap.size + 1, 0, none⟩ = some (.string (bs [])) := (hdd.cell 0).trans rfl; have e4 := hdd.frozen 0)
    go_region
    all_goals
      go_wp2
      have two : ∀ W : World, Blk W w.heap.size 2 #[.int .i64 0] → Blk W (w.heap.size + 1) 9 #[.string (bs [])] →
          Blk ((W.setCell ⟨w.heap.size, 0, none⟩ (.int .i64 0)).setCell ⟨w.heap.size + 1, 0, none⟩ (.string (bs []))) w.heap.size 2 #[.int .i64 0] ∧ Blk ((W.setCell ⟨w.heap.size, 0, none⟩ (.int .i64 0)).setCell ⟨w.heap.size + 1, 0, none⟩ (.string (bs []))) (w.heap.size + 1) 9 #[.string (bs [])] :=
        fun W a b => ⟨(a.set_ 0 _).far (p := ⟨w.heap.size + 1, 0, none⟩) n1 _, (b.far (p := ⟨w.heap.size, 0, none⟩) n2 _).set_ 0 _⟩
      have t1 := two _ hcc hdd
      have t2 := two _ t1.1 t1.2
      have q1 := (t2.1.cell 0).trans rfl
      have q2 := (t2.2.cell 0).trans rfl
      refine bodyPost_ret (v := .tuple #[.int .i64 0, .string (bs []), .string (bs []), errOf m o]) ?_ rfl ⟨⟨m, o, rfl⟩, ?_⟩
      · simp [bs_empty] at q1 q2
        simp [results, Tryd.results33, go_sem, q1, q2, bs_empty]
      · exact ((((hb2.setCell (p := ⟨w.heap.size, 0, none⟩) (Nat.le_refl _) _).setCell (p := ⟨w.heap.size + 1, 0, none⟩) (Nat.le_succ _) _).setCell (p := ⟨w.heap.size, 0, none⟩) (Nat.le_refl _) _).setCell (p := ⟨w.heap.size + 1, 0, none⟩) (Nat.le_succ _) _).drew
  | some p =>
    obtain ⟨n, nm, l⟩ := p
    go_enter Tryd.func33, Tryd.ntmps33
    go_wp2_with (go_at_call 35; refine (HP.out).mono ?_; rintro e w2 ⟨rfl, hcc, hdd, hb2⟩; have e1 : w2.cell? ⟨w.heap.size, 0, none⟩ = some (.int .i64 n) := (hcc.cell 0).trans rfl; have e2 := hcc.frozen 0; have e3 : w2.cell? ⟨w.heap.size + 1, 0, none⟩ = some (.string (bs nm)) := (hdd.cell 0).trans rfl; have e4 := hdd.frozen 0)
    go_region
    all_goals
      go_wp2
      have t1 := (hcc.set_ 0 (.int .i64 n)).far (p := ⟨w.heap.size + 1, 0, none⟩) n1 (.string (bs nm))
      have t2 := (hdd.far (p := ⟨w.heap.size, 0, none⟩) n2 (.int .i64 n)).set_ 0 (.string (bs nm))
      have q1 := (t1.cell 0).trans rfl
      have q2 := (t2.cell 0).trans rfl
      refine bodyPost_ret (v := .tuple #[.int .i64 n, .string (bs nm), .string (bs l), .nilIface]) ?_ rfl ⟨rfl, ?_⟩
      · simp [results, Tryd.results33, go_sem, q1, q2, idSt]
      · exact ((hb2.setCell (p := ⟨w.heap.size, 0, none⟩) (Nat.le_refl _) _).setCell (p := ⟨w.heap.size + 1, 0, none⟩) (Nat.le_succ _) _).drew

theorem ident_impl {s : ByteArray} {r : Option (Int × List UInt8 × List UInt8)} (hr : identAll s.data.toList = r) (hu : noUIn s.data.toList) (hs : s.size ≤ 9223372036854775807) (w : World) :
    Calls Tryd.prog 24 #[.string s] w fun e w' => IdEnd r e ∧ Below w.heap.size w w' := by
  have hz := fun W => ident_zz hr hu hs W
  have HZ := Lib.hid hz
  clear hz hr hu
  cases r with
  | none =>
    go_enter Tryd.func24, Tryd.ntmps24
    go_wp2_with (go_at_call 33; refine (HZ.out _).mono ?_; rintro e w2 ⟨⟨m, o, rfl⟩, hb2⟩)
    refine bodyPost_ret (v := .tuple #[.int .i64 0, .string (bs []), .string (bs []), .bool false]) (by simp [results, Tryd.results24, go_sem, bs_empty]) rfl ⟨rfl, hb2⟩
  | some p =>
    obtain ⟨n, nm, l⟩ := p
    go_enter Tryd.func24, Tryd.ntmps24
    go_wp2_with (go_at_call 33; refine (HZ.out _).mono ?_; rintro e w2 ⟨rfl, hb2⟩)
    refine bodyPost_ret (v := .tuple #[.int .i64 n, .string (bs nm), .string (bs l), .bool true]) (by simp [results, Tryd.results24, go_sem]) rfl ⟨rfl, hb2⟩

attribute [local go_sem] bs_toList in
theorem doorIdentifier_yes {s : ByteArray} {n : Int} {nm l : List UInt8} (hr : identAll s.data.toList = some (n, nm, l)) (hu : noUIn s.data.toList) (hs : s.size ≤ 9223372036854775807) (w : World) :
    Calls Tryd.prog 19 #[.string s, .int .i64 n, .string (bs nm), .string (bs l)] w fun e w' => e = .returned (.bool true) ∧ Below w.heap.size w w' := by
  have hz := fun W => ident_impl hr hu hs W
  have HZ := Lib.hid hz
  clear hz hr hu
  have e1 : (n == n) = true := by simp
  have e2 : (nm == nm) = true := by simp
  have e3 : (l == l) = true := by simp
  go_enter Tryd.func19, Tryd.ntmps19
  go_wp2_with (go_at_call 24; refine (HZ.out _).mono ?_; rintro e w2 ⟨rfl, hb2⟩)
  go_ret
  exact ⟨rfl, hb2⟩
end Go.Proofs.YtjlnnedofnefkaaDoor
