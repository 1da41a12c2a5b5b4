/- The door to Punycode, down from the thin package. -/
import Derived.Test.YteeodkmhelmedaaRun
import Derived.Test.YteeodkmhelmedaaPuny
import Derived.WideLaws
namespace Go.Proofs.Yteeodkmhelmedaa
open Go.RowKit
set_option linter.unusedVariables false
set_option maxRecDepth 100000
attribute [local go_sem] errOf bs_size bs_toList

def pText (out : List Nat) : ByteArray := runesBytes (out.map Int.ofNat)
/-- What the variable holds behind the part. -/
def pVal (r : Option (List Nat)) : Value :=
  match r with
  | some out => .string (pText out)
  | none => .string ⟨#[]⟩
def pSt : St := { orig := ⟨#[]⟩, str := [] }

theorem puny_part {w : World} {a c : Nat} {l pre enc : List UInt8} {r : Option (List Nat)} (hl : l.length ≤ 1000000) (hin : PunyIn l pre enc) (hr : pdec enc.length enc 128 0 72 (pre.map UInt8.toNat) = r)
    (ha : Blk w a 9 #[.string (bs l)]) (hc : Blk w c 9 #[.string ⟨#[]⟩]) (hac : a < c) :
    Calls Try.prog 24 #[.pointer (some ⟨w.heap.size + 3, 0, none⟩), .pointer (some ⟨a, 0, none⟩), .pointer (some ⟨c, 0, none⟩)] (runWorld w ⟨#[]⟩) fun e w' =>
      PartEnd w.heap.size pSt r.isSome e w' ∧
      (Blk w' c 9 #[pVal r] ∧ Below c w w' ∧ w.heap.size ≤ w'.heap.size) := by
  have hlt := hc.lt
  have hlta := ha.lt
  have h := runWorld_rst w ⟨#[]⟩
  have hB := runWorld_below w ⟨#[]⟩
  have hres := runWorld_res w ⟨#[]⟩
  have hsz := runWorld_size w ⟨#[]⟩
  have hc1 : Blk (runWorld w ⟨#[]⟩) c 9 #[.string ⟨#[]⟩] := hc.below hB hlt
  have ha1 : Blk (runWorld w ⟨#[]⟩) a 9 #[.string (bs l)] := ha.below hB hlta
  obtain ⟨W, hW⟩ : ∃ W, runWorld w ⟨#[]⟩ = W := ⟨_, rfl⟩
  rw [hW] at h hB hres hsz hc1 ha1 ⊢
  clear hW
  have hcall := expand_any h l pre enc hl hin
  rw [hr] at hcall
  have HC := Lib.hid hcall
  have HR := Lib.hid h
  have a0 : W.cell? ⟨a, 0, none⟩ = some (.string (bs l)) := (ha1.cell 0).trans rfl
  clear hcall hr hin h
  go_enter Try.func24, Try.ntmps24
  cases r with
  | none =>
    go_wp2_with (go_at_call 25; refine (HC.out).mono ?_; rintro e w1 ⟨hb1, m, o, rfl⟩)
    exact ⟨rfl, ⟨hres.keep hb1 (by omega), m, o, rfl⟩, hc1.below hb1 (by omega), (hB.mono (by omega)).trans (hb1.mono (by omega)), Nat.le_trans hB.size hb1.size⟩
  | some out =>
    go_wp2_with (go_at_call 25; refine (HC.out).mono ?_; rintro e w1 ⟨hb1, rfl⟩; have hcc := hc1.below hb1 (by omega); have e1 : w1.cell? ⟨c, 0, none⟩ = some (.string ⟨#[]⟩) := (hcc.cell 0).trans rfl; have e2 := hcc.frozen 0)
    go_end0
    have hr1 := rst_below HR.out hb1
    exact ⟨⟨(hres.keep hb1 (by omega)).far (p := ⟨c, 0, none⟩) hlt _, rfl, _, hr1.far (p := ⟨c, 0, none⟩) (show c < w.heap.size + 3 by omega) _⟩, hcc.set_ 0 _,
      ((hB.mono (by omega)).trans (hb1.mono (by omega))).setCell (p := ⟨c, 0, none⟩) (Nat.le_refl c) _, by rw [World.size_setCell]; exact Nat.le_trans hB.size hb1.size⟩

def PZEnd (r : Option (List Nat)) (e : Ending) : Prop :=
  match r with
  | some out => e = .returned (.tuple #[.string (pText out), .nilIface])
  | none => ∃ m o, e = .returned (.tuple #[.string ⟨#[]⟩, errOf m o])

theorem puny_zz {l pre enc : List UInt8} {r : Option (List Nat)} (hl : l.length ≤ 1000000) (hin : PunyIn l pre enc) (hr : pdec enc.length enc 128 0 72 (pre.map UInt8.toNat) = r) (w : World) :
    Calls Try.prog 17 #[.string (bs l)] w fun e w' => PZEnd r e ∧ Below w.heap.size w w' := by
  have hmf : ∀ (fn : Fn) (first cap : Array Value) (w : World), (Instr.makeFunc fn first cap).run Try.prog w = .ok (.func fn first cap) w := fun _ _ _ _ => rfl
  obtain ⟨w0, hw0⟩ : ∃ W, (w.alloc (.cells #[.string (bs l)] 9)).alloc (.cells #[.string ⟨#[]⟩] 9) = W := ⟨_, rfl⟩
  have hz0 : w0.heap.size = w.heap.size + 2 := by rw [← hw0]; simp
  have hba : Blk w0 w.heap.size 9 #[.string (bs l)] := by rw [← hw0]; exact (Blk.new _ _ _).alloc _
  have hbc : Blk w0 (w.heap.size + 1) 9 #[.string ⟨#[]⟩] := by
    rw [← hw0]
    have := Blk.new (w.alloc (.cells #[.string (bs l)] 9)) 9 #[.string ⟨#[]⟩]
    simpa only [World.size_alloc] using this
  have hpart := puny_part (w := w0) (a := w.heap.size) (c := w.heap.size + 1) hl hin hr hba hbc (Nat.lt_succ_self _)
  have HP := Lib.hid hpart
  have hbb : ∀ w1 w2 : World, Below (w.heap.size + 1) w0 w1 → Below w0.heap.size w1 w2 → Below w.heap.size w w2 := fun w1 w2 h1 h2 => by
    have h0 : Below w.heap.size w w0 := by rw [← hw0]; exact ((Below.refl _ _).alloc (Nat.le_refl _) _).alloc (by simp) _
    exact (h0.trans (h1.mono (by omega))).trans (h2.mono (by omega))
  subst hw0
  clear hpart hr hin hba hbc
  cases r with
  | none =>
    go_enter Try.func17, Try.ntmps17
    go_wp2_with (go_at_call 23; refine (run_fell (cap := #[.pointer (some ⟨w.heap.size, 0, none⟩), .pointer (some ⟨w.heap.size + 1, 0, none⟩)]) (fun _ _ => by kernel_rfl) rfl HP.out).mono ?_; rintro e w2 ⟨⟨m, o, rfl⟩, w1, ⟨hc1, hb1, hz1⟩, hb2⟩; have hcc : Blk w2 (w.heap.size + 1) 9 #[.string ⟨#[]⟩] := hc1.below hb2 (by simp); have e1 : w2.cell? ⟨w.heap.size + 1, 0, none⟩ = some (.string ⟨#[]⟩) := (hcc.cell 0).trans rfl; have e2 := hcc.frozen 0)
    refine bodyPost_ret (v := .tuple #[.string ⟨#[]⟩, errOf m o]) ?_ rfl ⟨⟨m, o, rfl⟩, ?_⟩
    · have e3 := (((hcc.set_ 0 (.string ⟨#[]⟩)).set_ 0 (.string ⟨#[]⟩)).cell 0).trans rfl
      simp [results, Try.results17, go_sem, e3]
    · exact ((hbb _ _ hb1 hb2).setCell (p := ⟨w.heap.size + 1, 0, none⟩) (Nat.le_succ _) _).setCell (p := ⟨w.heap.size + 1, 0, none⟩) (Nat.le_succ _) _
  | some out =>
    go_enter Try.func17, Try.ntmps17
    go_wp2_with (go_at_call 23; refine (run_ok (cap := #[.pointer (some ⟨w.heap.size, 0, none⟩), .pointer (some ⟨w.heap.size + 1, 0, none⟩)]) (fun _ _ => by kernel_rfl) rfl HP.out).mono ?_; rintro e w2 ⟨rfl, w1, ⟨hc1, hb1, hz1⟩, hb2⟩; have hcc : Blk w2 (w.heap.size + 1) 9 #[.string (pText out)] := hc1.below hb2 (by simp); have e1 : w2.cell? ⟨w.heap.size + 1, 0, none⟩ = some (.string (pText out)) := (hcc.cell 0).trans rfl; have e2 := hcc.frozen 0)
    refine bodyPost_ret (v := .tuple #[.string (pText out), .nilIface]) ?_ rfl ⟨rfl, ?_⟩
    · have e3 := ((hcc.set_ 0 (.string (pText out))).cell 0).trans rfl
      simp [results, Try.results17, go_sem, e3]
    · exact (hbb _ _ hb1 hb2).setCell (p := ⟨w.heap.size + 1, 0, none⟩) (Nat.le_succ _) _

def PIEnd (r : Option (List Nat)) (e : Ending) : Prop :=
  match r with
  | some out => e = .returned (.tuple #[.string (pText out), .bool true])
  | none => e = .returned (.tuple #[.string ⟨#[]⟩, .bool false])
theorem puny_impl {l pre enc : List UInt8} {r : Option (List Nat)} (hl : l.length ≤ 1000000) (hin : PunyIn l pre enc) (hr : pdec enc.length enc 128 0 72 (pre.map UInt8.toNat) = r) (w : World) :
    Calls Try.prog 10 #[.string (bs l)] w fun e w' => PIEnd r e ∧ Below w.heap.size w w' := by
  have HZ := Lib.hid (fun W => puny_zz hl hin hr W)
  clear hin hr
  cases r with
  | none =>
    go_enter Try.func10, Try.ntmps10
    go_wp2_with (go_at_call 17; refine (HZ.out _).mono ?_; rintro e w2 ⟨⟨m, o, rfl⟩, hb2⟩)
    go_ret2
    exact ⟨rfl, hb2⟩
  | some out =>
    go_enter Try.func10, Try.ntmps10
    go_wp2_with (go_at_call 17; refine (HZ.out _).mono ?_; rintro e w2 ⟨rfl, hb2⟩)
    go_ret2
    exact ⟨rfl, hb2⟩
/-- It is read as this text. -/
theorem doorPuny_yes {l pre enc : List UInt8} {out : List Nat} (hl : l.length ≤ 1000000) (hin : PunyIn l pre enc) (hr : pdec enc.length enc 128 0 72 (pre.map UInt8.toNat) = some out) (w : World) :
    Calls Try.prog 9 #[.string (bs l), .string (pText out)] w fun e w' => e = .returned (.bool true) ∧ Below w.heap.size w w' := by
  have HZ := Lib.hid (fun W => puny_impl hl hin hr W)
  have e1 : ((pText out).toList == (pText out).toList) = true := beq_self_eq_true _
  clear hin hr
  go_enter Try.func9, Try.ntmps9
  go_wp2_with (go_at_call 10; refine (HZ.out _).mono ?_; rintro e w2 ⟨rfl, hb2⟩)
  go_ret
  exact ⟨rfl, hb2⟩
end Go.Proofs.Yteeodkmhelmedaa
