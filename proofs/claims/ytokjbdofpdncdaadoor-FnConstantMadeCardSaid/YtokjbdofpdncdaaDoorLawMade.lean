/- FnConstantMade: the walk. -/
import Derived.Test.YtokjbdofpdncdaaDoorWr2
import Derived.Test.YtokjbdofpdncdaaDoorMadeT
import Derived.Test.YtokjbdofpdncdaaDoorMadeR2
import Derived.Test.YtokjbdofpdncdaaDoorGateConst
import Derived.Test.YtokjbdofpdncdaaDoorRustArg
import Derived.Deep.RegionWith
namespace Go.Proofs.YtokjbdofpdncdaaDoor
open Go.RowKit Go.Lib
set_option linter.unusedVariables false
set_option maxRecDepth 100000
attribute [local go_sem] bs_size bs_toList

theorem kind_bits (c : UInt8) : ((bitsOf c).1 ≠ 0 → (bitsOf c).2 = false → c ∈ kindLetters ∧ kindOf c = 2 ∧ c ≠ 98 ∧ c ≠ 99) ∧ ((bitsOf c).1 ≠ 0 → (bitsOf c).2 = true → c ∈ kindLetters ∧ kindOf c = 1 ∧ c ≠ 98 ∧ c ≠ 99) := by
  have h := forall_byte (p := fun c => (((bitsOf c).1 == 0) || (bitsOf c).2 || (decide (c ∈ kindLetters) && (kindOf c == 2) && c != 98 && c != 99)) && (((bitsOf c).1 == 0) || !(bitsOf c).2 || (decide (c ∈ kindLetters) && (kindOf c == 1) && c != 98 && c != 99))) (by kernel_rfl) c
  simp only [Bool.and_eq_true, Bool.or_eq_true, Bool.not_eq_true', beq_iff_eq, bne_iff_ne, decide_eq_true_eq] at h
  constructor
  · intro h0 h1
    rcases h.1 with (h2 | h2) | h2
    · exact absurd h2 h0
    · rw [h1] at h2; cases h2
    · exact ⟨h2.1.1.1, h2.1.1.2, h2.1.2, h2.2⟩
  · intro h0 h1
    rcases h.2 with (h2 | h2) | h2
    · exact absurd h2 h0
    · rw [h1] at h2; cases h2
    · exact ⟨h2.1.1.1, h2.1.1.2, h2.1.2, h2.2⟩

/-- What is right is read as it is told. -/
theorem made_reads {k : Int} {c : UInt8} {n : Nat} {f : Bool} {kn : Nat} (h : rightOk k c n f kn = true) (hn : n ≤ 18446744073709551615) (nm : List UInt8) (A : Option Addr) (kc : Nat) :
    (k = 20 ∨ k = 21) ∧ ∃ o, (∀ l, ConstReads (pieceL k c n f ++ l) (some (o, l))) ∧
      ∀ w : World, Calls Tryd.prog 15 #[rustV k (c.toNat : Int) nm (n : Int) f A kn kc] w fun e w' => e = .returned (.string (bs o)) ∧ Below w.heap.size w w' := by
  unfold rightOk at h
  split at h
  · rename_i hk
    subst hk
    refine ⟨.inl rfl, ?_⟩
    have hp : pieceL 20 c n f = [c] ++ (if f = true then [110] else []) ++ (hexL n ++ [95]) := if_pos rfl
    rw [hp]
    rw [Bool.and_eq_true] at h
    rcases numOk_good h.2 with ⟨rfl, h1, rfl⟩ | ⟨rfl, ⟨h1, h2, h3, h4, h5⟩, rfl⟩ | ⟨h0, h1, rfl⟩ | ⟨h0, h1⟩
    · exact ⟨_, fun l => by simpa using reads_bool h1 l, fun w => text_bool n h1 nm _ A kn kc w⟩
    · refine ⟨_, fun l => by simpa using reads_char h1 h2 h3 h5 l, fun w => ?_⟩
      have e : ((UInt8.ofNat n).toNat : Int) = (n : Int) := by rw [UInt8.toNat_ofNat']; omega
      have := text_char (UInt8.ofNat n) nm false A kn kc w
      rw [e] at this
      exact this
    · obtain ⟨m1, m2, m3, m4⟩ := (kind_bits c).1 h0 h1
      exact ⟨_, fun l => by simpa using reads_uns m1 m2 hn l, fun w => text_num c m3 m4 n hn nm false A kn kc w⟩
    · obtain ⟨m1, m2, m3, m4⟩ := (kind_bits c).2 h0 h1
      refine ⟨_, fun l => ?_, fun w => text_num c m3 m4 n hn nm f A kn kc w⟩
      cases f with
      | true => simpa using reads_neg m1 m2 hn l
      | false => simpa using reads_sig m1 m2 hn l
  · split at h
    · rename_i hk
      subst hk
      exact ⟨.inr rfl, _, fun l => reads_hole l, fun w => text_hole _ _ nm f A kn kc w⟩
    · cases h

theorem zzFits2_any (k : Int) (c : UInt8) (nm : List UInt8) (n : Nat) (f : Bool) (A : Option Addr) (kn kc : Nat) (w : World) : ∃ r : Bool,
    ∀ W : World, Calls Tryd.prog 11 #[rustV k (c.toNat : Int) nm (n : Int) f A kn kc] W fun e w' => e = .returned (.bool r) ∧ Below W.heap.size W w' := by
  refine ⟨decide (nm.length ≤ 2147483647) && decide (kn ≤ 2147483647), fun W => ?_⟩
  unfold rustV
  by_cases h1 : (nm.length : Int) > 2147483647
  · have e1 : decide (nm.length ≤ 2147483647) = false := decide_eq_false (by omega)
    rw [e1]
    go_enter Tryd.func11, Tryd.ntmps11
    go_wp2
    go_ret
    exact ⟨rfl, (Below.refl _ _).alloc (Nat.le_refl _) _⟩
  · have e1 : decide (nm.length ≤ 2147483647) = true := decide_eq_true (by omega)
    rw [e1]
    by_cases h2 : (kn : Int) > 2147483647
    · have e2 : decide (kn ≤ 2147483647) = false := decide_eq_false (by omega)
      rw [e2]
      go_enter Tryd.func11, Tryd.ntmps11
      go_wp2
      go_ret
      exact ⟨rfl, (Below.refl _ _).alloc (Nat.le_refl _) _⟩
    · have e2 : decide (kn ≤ 2147483647) = true := decide_eq_true (by omega)
      rw [e2]
      go_enter Tryd.func11, Tryd.ntmps11
      go_wp2
      go_ret
      exact ⟨rfl, (Below.refl _ _).alloc (Nat.le_refl _) _⟩

theorem blk_step {w W w' : World} {g : Nat} {t : TypeId} {cs : Array Value} (h : Blk w g t cs) (e : W.heap = w.heap) (hb : Below W.heap.size W w') : Blk w' g t cs := by
  have h' : Blk W g t cs := by unfold Blk at *; rw [e]; exact h
  exact h'.below hb h'.lt
/-- The six cells of a piece. -/
theorem blk6 {w : World} {n : Nat} {a b c d e f : Value} (h : Blk w n 38 #[a, b, c, d, e, f]) :
    w.cell? ⟨n, 0, none⟩ = some a ∧ w.cell? ⟨n, 1, none⟩ = some b ∧ w.cell? ⟨n, 2, none⟩ = some c ∧ w.cell? ⟨n, 3, none⟩ = some d ∧ w.cell? ⟨n, 4, none⟩ = some e ∧ w.cell? ⟨n, 5, none⟩ = some f :=
  ⟨h.cell 0, h.cell 1, h.cell 2, h.cell 3, h.cell 4, h.cell 5⟩

set_option maxHeartbeats 8000000 in
theorem made_yes (w : World) (hP : Pow w w.heap.size) (k : Int) (c : UInt8) (nm : List UInt8) (n : Nat) (hn : n ≤ 18446744073709551615) (f : Bool) (A : Option Addr) (kn kc : Nat) (l : List UInt8) (hz : ¬ 2147483647 < l.length)
    (HF : ∀ W : World, Calls Tryd.prog 11 #[rustV k (c.toNat : Int) nm (n : Int) f A kn kc] W fun e w' => e = .returned (.bool true) ∧ Below W.heap.size W w') (hR : rightOk k c n f kn = true) :
    Calls Tryd.prog 4 #[rustV k (c.toNat : Int) nm (n : Int) f A kn kc, .string (bs l)] w fun e w' => e = .returned (.bool true) ∧ Below w.heap.size w w' := by
  have hz' : decide ((2147483647:Int) < (l.length : Int)) = false := decide_eq_false (by omega)
  have HF' := Lib.hid HF
  have HR' := Lib.hid (fun W : World => right_any k c nm n f A kn kc W)
  rw [hR] at HR'
  obtain ⟨hk, o, hr, ht⟩ := made_reads hR hn nm A kc
  have HS := Lib.hid (fun W : World => rustPiece_any W k hk c n hn nm f A kn kc)
  have HT := Lib.hid ht
  have hpl := pieceL_len k c n f hn
  have HI := Lib.hid (fun (W : World) (hb : Below w.heap.size w W) => (constIs_yes (w := W) (c := pieceL k c n f) (l := l) (o := o) ((hP.keep hb (Nat.le_refl _)).up hb.size (Nat.le_refl _)) (by omega) (hr l)).mono fun e w' h => (show e = .returned (.bool true) ∧ Below w.heap.size w w' from ⟨h.1, hb.trans (h.2.mono hb.size)⟩))
  generalize pieceL k c n f = L at *
  have HB := Lib.hid (fun (cs : Array Value) => Blk.new w 38 cs)
  clear HF hR hr ht hz hP hpl hk
  unfold rustV at *
  go_enter Tryd.func4, Tryd.ntmps4
  go_wp2_with (go_at_call 11; refine (HF'.out _).mono ?_; rintro e w2 ⟨rfl, hb2⟩; have k2 := (HB.out _).below hb2 (by simp); obtain ⟨a0, a1, a2, a3, a4, a5⟩ := blk6 k2; have hbw2 : Below w.heap.size w w2 := ((Below.refl w.heap.size w).alloc (Nat.le_refl _) _).trans (hb2.mono (by simp)))
  go_region_with (first
    | (go_at_call 15; refine (HT.out _).mono ?_; rintro e w5 ⟨rfl, hb5⟩; have k5 := blk_step k4 (by first | rfl | simp) hb5; obtain ⟨a0, a1, a2, a3, a4, a5⟩ := blk6 k5; have hbw5 : Below w.heap.size w w5 := Below.trans (by first | exact hbw4 | exact hbw4.drew | exact below_drewN hbw4 _) (hb5.mono (by simpa using hbw4.size)))
    | (go_at_call 14; refine (HS.out _).mono ?_; rintro e w4 ⟨rfl, hb4⟩; have k4 := blk_step k3 (by first | rfl | simp) hb4; obtain ⟨a0, a1, a2, a3, a4, a5⟩ := blk6 k4; have hbw4 : Below w.heap.size w w4 := Below.trans (by first | exact hbw3 | exact hbw3.drew | exact below_drewN hbw3 _) (hb4.mono (by simpa using hbw3.size)))
    | (go_at_call 12; refine (HR'.out _).mono ?_; rintro e w3 ⟨rfl, hb3⟩; have k3 := blk_step k2 (by first | rfl | simp) hb3; obtain ⟨a0, a1, a2, a3, a4, a5⟩ := blk6 k3; have hbw3 : Below w.heap.size w w3 := Below.trans (by first | exact hbw2 | exact hbw2.drew | exact below_drewN hbw2 _) (hb3.mono (by simpa using hbw2.size)))
    | (go_at_call 13; refine (HI.out _ (by first | exact hbw5 | exact hbw5.drew | exact below_drewN hbw5 _)).mono ?_; rintro e w6 ⟨rfl, hb6⟩))
  all_goals
    go_wp2
    go_ret
    exact ⟨rfl, hb6⟩

set_option maxHeartbeats 8000000 in
theorem made_no (w : World) (k : Int) (c : UInt8) (nm : List UInt8) (n : Nat) (f : Bool) (A : Option Addr) (kn kc : Nat) (l : List UInt8) (hz : ¬ 2147483647 < l.length)
    (HF : ∀ W : World, Calls Tryd.prog 11 #[rustV k (c.toNat : Int) nm (n : Int) f A kn kc] W fun e w' => e = .returned (.bool true) ∧ Below W.heap.size W w') (hR : rightOk k c n f kn = false) :
    Calls Tryd.prog 4 #[rustV k (c.toNat : Int) nm (n : Int) f A kn kc, .string (bs l)] w fun e w' => e = .returned (.bool true) ∧ Below w.heap.size w w' := by
  have hz' : decide ((2147483647:Int) < (l.length : Int)) = false := decide_eq_false (by omega)
  have HF' := Lib.hid HF
  have HR' := Lib.hid (fun W : World => right_any k c nm n f A kn kc W)
  rw [hR] at HR'
  have HB := Lib.hid (fun (cs : Array Value) => Blk.new w 38 cs)
  clear HF hR hz
  unfold rustV at *
  go_enter Tryd.func4, Tryd.ntmps4
  go_wp2_with (go_at_call 11; refine (HF'.out _).mono ?_; rintro e w2 ⟨rfl, hb2⟩; have k2 := (HB.out _).below hb2 (by simp); obtain ⟨a0, a1, a2, a3, a4, a5⟩ := blk6 k2; have hbw2 : Below w.heap.size w w2 := ((Below.refl w.heap.size w).alloc (Nat.le_refl _) _).trans (hb2.mono (by simp)))
  refine wp_region_any (by kernel_rfl) ?_
  change wpAny _ _ _ _ _ _ _ (World.drew _)
  refine wpAny_ready (rs := [0]) (by kernel_rfl) (by simp) (AllReady.cons rfl (fun K hK => ?_) AllReady.nil)
  go_simp
  refine hK _ _ ?_
  clear hK K
  refine wpAny_ready (rs := [1]) (by kernel_rfl) (by simp) (AllReady.cons rfl (fun K hK => ?_) AllReady.nil)
  go_simp
  go_wp2_with (go_at_call 12; refine (HR'.out _).mono ?_; rintro e w3 ⟨rfl, hb3⟩)
  refine wpAny_take (i := 2) (v := ?_) rfl (by kernel_rfl) (by kernel_rfl) (by kernel_rfl) (fun _ _ _ h => h) (Or.inl ⟨by kernel_rfl, ?_⟩) ?_
  rotate_left
  · intro w
    go_simp
    try with_reducible rfl
  refine wpAny_take (i := 3) (v := ?_) rfl (by kernel_rfl) (by kernel_rfl) (by kernel_rfl) (fun _ _ _ h => h) (Or.inl ⟨by kernel_rfl, ?_⟩) ?_
  rotate_left
  · intro w
    go_simp
    try with_reducible rfl
  refine wpAny_take (i := 4) (v := undef) rfl (by kernel_rfl) (by kernel_rfl) (by kernel_rfl) (fun _ _ _ h => h) (Or.inr ⟨by kernel_rfl, rfl⟩) ?_
  go_simp
  refine wpAny_take (i := 5) (v := undef) rfl (by kernel_rfl) (by kernel_rfl) (by kernel_rfl) (fun _ _ _ h => h) (Or.inr ⟨by kernel_rfl, rfl⟩) ?_
  go_simp
  refine wpAny_take (i := 6) (v := undef) rfl (by kernel_rfl) (by kernel_rfl) (by kernel_rfl) (fun _ _ _ h => h) (Or.inr ⟨by kernel_rfl, rfl⟩) ?_
  go_simp
  refine wpAny_take (i := 7) (v := undef) rfl (by kernel_rfl) (by kernel_rfl) (by kernel_rfl) (fun _ _ _ h => h) (Or.inr ⟨by kernel_rfl, rfl⟩) ?_
  go_simp
  refine wpAny_take (i := 8) (v := undef) rfl (by kernel_rfl) (by kernel_rfl) (by kernel_rfl) (fun _ _ _ h => h) (Or.inr ⟨by kernel_rfl, rfl⟩) ?_
  go_simp
  refine wpAny_take (i := 9) (v := undef) rfl (by kernel_rfl) (by kernel_rfl) (by kernel_rfl) (fun _ _ _ h => h) (Or.inr ⟨by kernel_rfl, rfl⟩) ?_
  go_simp
  refine wpAny_take (i := 10) (v := ?_) rfl (by kernel_rfl) (by kernel_rfl) (by kernel_rfl) (fun _ _ _ h => h) (Or.inl ⟨by kernel_rfl, ?_⟩) ?_
  rotate_left
  · intro w
    go_simp
    try with_reducible rfl
  refine wpAny_take (i := 11) (v := ?_) rfl (by kernel_rfl) (by kernel_rfl) (by kernel_rfl) (fun _ _ _ h => h) (Or.inl ⟨by kernel_rfl, ?_⟩) ?_
  rotate_left
  · intro w
    go_simp
    try with_reducible rfl
  refine wpAny_done (by kernel_rfl) ?_ _
  go_wp2
  go_ret
  exact ⟨rfl, hbw2.drew.trans (hb3.mono (by simpa using hbw2.size))⟩

theorem constMade_walk (w : World) (hP : Pow w w.heap.size) (k : Int) (c : UInt8) (nm : List UInt8) (n : Nat) (f : Bool) (A : Option Addr) (kn kc : Nat) (hn : n ≤ 18446744073709551615) (l : List UInt8) (hl : l.length ≤ maxLen) :
    Calls Tryd.prog 4 #[rustV k (c.toNat : Int) nm (n : Int) f A kn kc, .string (bs l)] w fun e w' => e = .returned (.bool true) ∧ Below w.heap.size w w' := by
  obtain ⟨r, HF⟩ := zzFits2_any k c nm n f A kn kc w
  have short : r = false ∨ 2147483647 < l.length → Calls Tryd.prog 4 #[rustV k (c.toNat : Int) nm (n : Int) f A kn kc, .string (bs l)] w fun e w' => e = .returned (.bool true) ∧ Below w.heap.size w w' := by
    intro h
    have HF' := Lib.hid HF
    clear HF
    unfold rustV at *
    rcases h with rfl | hz
    · go_enter Tryd.func4, Tryd.ntmps4
      go_wp2_with (go_at_call 11; refine (HF'.out _).mono ?_; rintro e w2 ⟨rfl, hb2⟩)
      go_ret
      exact ⟨rfl, ((Below.refl w.heap.size w).alloc (Nat.le_refl _) _).trans (hb2.mono (by simp))⟩
    · have hz' : decide ((2147483647:Int) < (l.length : Int)) = true := decide_eq_true (by omega)
      clear hz hl
      cases r
      all_goals
        go_enter Tryd.func4, Tryd.ntmps4
        go_wp2_with (go_at_call 11; refine (HF'.out _).mono ?_; rintro e w2 ⟨rfl, hb2⟩)
        go_ret
        exact ⟨rfl, ((Below.refl w.heap.size w).alloc (Nat.le_refl _) _).trans (hb2.mono (by simp))⟩
  by_cases hz : 2147483647 < l.length
  · exact short (.inr hz)
  · cases r with
    | false => exact short (.inl rfl)
    | true =>
      cases hR : rightOk k c n f kn with
      | true => exact made_yes w hP k c nm n hn f A kn kc l hz HF hR
      | false => exact made_no w k c nm n f A kn kc l hz HF hR
end Go.Proofs.YtokjbdofpdncdaaDoor
