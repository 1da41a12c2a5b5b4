/- FnConstantEnds: the walk. -/
import Derived.Test.YtepcpmeblidkgaaDoorLawConst
import Derived.Deep.RegionWith
namespace Go.Proofs.YtepcpmeblidkgaaDoor
open Go.RowKit Go.Lib
set_option linter.unusedVariables false
set_option maxRecDepth 100000
attribute [local go_sem] bs_size bs_toList

theorem hexd_none {c : UInt8} (h : ¬ (c.toNat = 95 ∨ (48 ≤ c.toNat ∧ c.toNat ≤ 57) ∨ (97 ≤ c.toNat ∧ c.toNat ≤ 102))) : hexd c = none := by
  have key := forall_byte (p := fun c => decide (c.toNat = 95 ∨ (48 ≤ c.toNat ∧ c.toNat ≤ 57) ∨ (97 ≤ c.toNat ∧ c.toNat ≤ 102)) || hexd c == none) (by kernel_rfl) c
  rw [Bool.or_eq_true] at key
  rcases key with key | key
  · exact absurd (of_decide_eq_true key) h
  · simpa using key

set_option maxHeartbeats 2000000 in
theorem constEnds_walk (w : World) (hP : Pow w w.heap.size) (i : Int) (hi : (Lit.int .i64 i).wf = true) (n : Nat) (hn : n ≤ 18446744073709551615) (c : UInt8) (l : List UInt8) (hl : l.length ≤ maxLen) :
    Calls Tryd.prog 8 #[.int .i64 i, .int .u64 (n : Int), .int .u8 (c.toNat : Int), .string (bs l)] w fun e w' => e = .returned (.bool true) ∧ Below w.heap.size w w' := by
  by_cases hz : 2147483647 < l.length
  · go_enter Tryd.func8, Tryd.ntmps8
    go_wp2_with fail
    go_ret
    exact ⟨rfl, Below.refl _ _⟩
  · have hz' : decide ((2147483647:Int) < (l.length : Int)) = false := decide_eq_false (by omega)
    obtain ⟨k, hk, h⟩ := six hi
    obtain ⟨t1, t2, t3, t4⟩ := letters6 hk
    have hx64 := hexL_64 n hn
    have HU := Lib.hid (fun W : World => RustUnsigned_any hk h W)
    have HX := Lib.hid (fun W : World => hex_any n hn W)
    have hcv : ∀ (d : UInt8) (V : World) (b : Nat), V.cell? ⟨b, 0, none⟩ = some (.int .u8 (d.toNat : Int)) → (convert 22 9 (.slice (some ⟨b, 0, none⟩) 1 1)).run Tryd.prog V = .ok (.string (bs [d])) V := by
      intro d V b hc
      refine Bytes.convert (P := Tryd.prog) (A := some ⟨b, 0, none⟩) (n := 1) (l := [d]) ⟨rfl, .inr ⟨_, 0, rfl, World.block_lt_of_cell? V _ hc, fun j hj => ?_⟩⟩ 1 Tryd.underlying22 Tryd.underlying5 Tryd.underlying9
      have hj0 : j = 0 := by simp at hj; omega
      subst hj0
      exact hc
    have hcu := hcv (uLetter k)
    have hcc := hcv c
    replace hcv := Lib.hid hcv
    have hdh : ∀ (W : World) (m : Nat), (W.drewN m).heap = W.heap := fun W m => by induction m generalizing W with
      | zero => rfl
      | succ m ih => exact ih W.drew
    have hn1 : ∀ (m : Nat) (x : Int), ((w.drewN m).alloc (.cells #[.int .u8 x] 5)).cell? ⟨w.heap.size, 0, none⟩ = some (.int .u8 x) := fun m x => by
      have := (Blk.new (w.drewN m) 5 #[Value.int .u8 x]).cell 0
      rw [hdh] at this
      exact this
    have hn2 : ∀ (m : Nat) (x : Int), ((w.alloc (.cells #[.int .u8 x] 5)).drewN m).cell? ⟨w.heap.size, 0, none⟩ = some (.int .u8 x) := fun m x => by
      have := (Blk.new w 5 #[Value.int .u8 x]).cell 0
      unfold World.cell? at this ⊢
      rw [hdh]
      exact this
    replace hdh := Lib.hid hdh
    obtain ⟨S1, hS1⟩ : ∃ S, uLetter k :: hexL n = S := ⟨_, rfl⟩
    obtain ⟨S2, hS2⟩ : ∃ S, S1 ++ [c] = S := ⟨_, rfl⟩
    obtain ⟨S3, hS3⟩ : ∃ S, S2 ++ l = S := ⟨_, rfl⟩
    have e3 : uLetter k :: (hexL n ++ c :: l) = S3 := by rw [← hS3, ← hS2, ← hS1]; simp
    have n1 : S1.length = (hexL n).length + 1 := by rw [← hS1]; simp
    have n2 : S2.length = S1.length + 1 := by rw [← hS2]; simp
    have n3 : S3.length = S2.length + l.length := by rw [← hS3]; simp
    have a1 : ∀ W, (Op.stringOp .add (bs [uLetter k]) (bs (hexL n))).run Tryd.prog W = .ok (.string (bs S1)) W := by rw [← hS1]; exact add_bs [uLetter k] _ (by simp; omega)
    have a2 : ∀ W, (Op.stringOp .add (bs S1) (bs [c])).run Tryd.prog W = .ok (.string (bs S2)) W := by rw [← hS2]; exact add_bs S1 [c] (by simp; omega)
    have a3 : ∀ W, (Op.stringOp .add (bs S2) (bs l)).run Tryd.prog W = .ok (.string (bs S3)) W := by rw [← hS3]; exact add_bs S2 l (by omega)
    have HI := Lib.hid (fun (W : World) (hb : Below w.heap.size w W) => (constIs_yes (w := W) (c := [112]) (l := l) (o := [95]) ((hP.keep hb (Nat.le_refl _)).up hb.size (Nat.le_refl _)) (by simp; omega) (reads_hole l)).mono fun e w' h => (show e = .returned (.bool true) ∧ Below w.heap.size w w' from ⟨h.1, hb.trans (h.2.mono hb.size)⟩))
    have HR := Lib.hid (fun (hd : ¬ (c.toNat = 95 ∨ (48 ≤ c.toNat ∧ c.toNat ≤ 57) ∨ (97 ≤ c.toNat ∧ c.toNat ≤ 102))) (W : World) (hb : Below w.heap.size w W) => (constRefused_yes (w := W) (s := S3) ((hP.keep hb (Nat.le_refl _)).up hb.size (Nat.le_refl _)) (by omega) (e3 ▸ reads_ends t1 t2 hn (fun e => hd (.inl (by rw [e]; rfl))) (hexd_none hd) l)).mono fun e w' h => (show e = .returned (.bool true) ∧ Below w.heap.size w w' from ⟨h.1, hb.trans (h.2.mono hb.size)⟩))
    rcases (show c.toNat = 95 ∨ (c.toNat ≠ 95 ∧ 48 ≤ c.toNat ∧ c.toNat ≤ 57) ∨ (97 ≤ c.toNat ∧ c.toNat ≤ 102) ∨ c.toNat < 48 ∨ (57 < c.toNat ∧ c.toNat < 97 ∧ c.toNat ≠ 95) ∨ 102 < c.toNat by omega) with hd | hd | hd | hd | hd | hd
    · skip
      have q0 : ((c.toNat : Int) == 95) = true := by simp; omega
      clear t1 t2 t3 t4 hk h hz hP hi hl hn hx64 e3 n1 n2 n3 hS1 hS2 hS3
      go_enter Tryd.func8, Tryd.ntmps8
      go_wp2_with fail
      go_region_with (first
        | (go_at_call 29; refine (HU.out _).mono ?_; rintro e w2 ⟨rfl, rfl⟩)
        | (go_at_call 30; refine (HX.out _).mono ?_; rintro e w2 ⟨rfl, m, rfl⟩))
      all_goals
        go_wp2_with (go_at_call 31; refine (HI.out _ (by repeat (first | exact Below.refl _ _ | refine Below.drew ?_ | refine below_drewN ?_ _ | refine Below.alloc ?_ (by simp) _))).mono ?_; rintro e w3 ⟨rfl, hb3⟩)
        go_ret
        exact ⟨rfl, hb3⟩
    · skip
      have q0 : ((c.toNat : Int) == 95) = false := by simp; omega
      have q1 : (48 : Int) ≤ (c.toNat : Int) := by omega
      have q2 : (c.toNat : Int) ≤ 57 := by omega
      clear t1 t2 t3 t4 hk h hz hP hi hl hn hx64 e3 n1 n2 n3 hS1 hS2 hS3
      go_enter Tryd.func8, Tryd.ntmps8
      go_wp2_with fail
      go_region_with (first
        | (go_at_call 29; refine (HU.out _).mono ?_; rintro e w2 ⟨rfl, rfl⟩)
        | (go_at_call 30; refine (HX.out _).mono ?_; rintro e w2 ⟨rfl, m, rfl⟩))
      all_goals
        go_wp2_with (go_at_call 31; refine (HI.out _ (by repeat (first | exact Below.refl _ _ | refine Below.drew ?_ | refine below_drewN ?_ _ | refine Below.alloc ?_ (by simp) _))).mono ?_; rintro e w3 ⟨rfl, hb3⟩)
        go_ret
        exact ⟨rfl, hb3⟩
    · skip
      have q0 : ((c.toNat : Int) == 95) = false := by simp; omega
      have q1 : (48 : Int) ≤ (c.toNat : Int) := by omega
      have q2 : ¬ (c.toNat : Int) ≤ 57 := by omega
      have q3 : (97 : Int) ≤ (c.toNat : Int) := by omega
      have q4 : (c.toNat : Int) ≤ 102 := by omega
      clear t1 t2 t3 t4 hk h hz hP hi hl hn hx64 e3 n1 n2 n3 hS1 hS2 hS3
      go_enter Tryd.func8, Tryd.ntmps8
      go_wp2_with fail
      go_region_with (first
        | (go_at_call 29; refine (HU.out _).mono ?_; rintro e w2 ⟨rfl, rfl⟩)
        | (go_at_call 30; refine (HX.out _).mono ?_; rintro e w2 ⟨rfl, m, rfl⟩))
      all_goals
        go_wp2_with (go_at_call 31; refine (HI.out _ (by repeat (first | exact Below.refl _ _ | refine Below.drew ?_ | refine below_drewN ?_ _ | refine Below.alloc ?_ (by simp) _))).mono ?_; rintro e w3 ⟨rfl, hb3⟩)
        go_ret
        exact ⟨rfl, hb3⟩
    · replace HR := Lib.hid (HR.out (by omega))
      have q0 : ((c.toNat : Int) == 95) = false := by simp; omega
      have q1 : ¬ (48 : Int) ≤ (c.toNat : Int) := by omega
      have q3 : ¬ (97 : Int) ≤ (c.toNat : Int) := by omega
      clear t1 t2 t3 t4 hk h hz hP hi hl hn hx64 e3 n1 n2 n3 hS1 hS2 hS3
      go_enter Tryd.func8, Tryd.ntmps8
      go_wp2_with fail
      go_region_with (first
        | (go_at_call 29; refine (HU.out _).mono ?_; rintro e w2 ⟨rfl, rfl⟩)
        | (go_at_call 30; refine (HX.out _).mono ?_; rintro e w2 ⟨rfl, m, rfl⟩))
      all_goals
        go_wp2_with (first
          | (go_at_call 32; refine (HR.out _ (by repeat (first | exact Below.refl _ _ | refine Below.drew ?_ | refine below_drewN ?_ _ | refine Below.alloc ?_ (by simp) _))).mono ?_; rintro e w3 ⟨rfl, hb3⟩)
          | (go_at_call 31; refine (HI.out _ hb3).mono ?_; rintro e w4 ⟨rfl, hb4⟩))
        go_ret
        exact ⟨rfl, hb4⟩
    · replace HR := Lib.hid (HR.out (by omega))
      have q0 : ((c.toNat : Int) == 95) = false := by simp; omega
      have q1 : (48 : Int) ≤ (c.toNat : Int) := by omega
      have q2 : ¬ (c.toNat : Int) ≤ 57 := by omega
      have q3 : ¬ (97 : Int) ≤ (c.toNat : Int) := by omega
      clear t1 t2 t3 t4 hk h hz hP hi hl hn hx64 e3 n1 n2 n3 hS1 hS2 hS3
      go_enter Tryd.func8, Tryd.ntmps8
      go_wp2_with fail
      go_region_with (first
        | (go_at_call 29; refine (HU.out _).mono ?_; rintro e w2 ⟨rfl, rfl⟩)
        | (go_at_call 30; refine (HX.out _).mono ?_; rintro e w2 ⟨rfl, m, rfl⟩))
      all_goals
        go_wp2_with (first
          | (go_at_call 32; refine (HR.out _ (by repeat (first | exact Below.refl _ _ | refine Below.drew ?_ | refine below_drewN ?_ _ | refine Below.alloc ?_ (by simp) _))).mono ?_; rintro e w3 ⟨rfl, hb3⟩)
          | (go_at_call 31; refine (HI.out _ hb3).mono ?_; rintro e w4 ⟨rfl, hb4⟩))
        go_ret
        exact ⟨rfl, hb4⟩
    · replace HR := Lib.hid (HR.out (by omega))
      have q0 : ((c.toNat : Int) == 95) = false := by simp; omega
      have q1 : (48 : Int) ≤ (c.toNat : Int) := by omega
      have q2 : ¬ (c.toNat : Int) ≤ 57 := by omega
      have q3 : (97 : Int) ≤ (c.toNat : Int) := by omega
      have q4 : ¬ (c.toNat : Int) ≤ 102 := by omega
      clear t1 t2 t3 t4 hk h hz hP hi hl hn hx64 e3 n1 n2 n3 hS1 hS2 hS3
      go_enter Tryd.func8, Tryd.ntmps8
      go_wp2_with fail
      go_region_with (first
        | (go_at_call 29; refine (HU.out _).mono ?_; rintro e w2 ⟨rfl, rfl⟩)
        | (go_at_call 30; refine (HX.out _).mono ?_; rintro e w2 ⟨rfl, m, rfl⟩))
      all_goals
        go_wp2_with (first
          | (go_at_call 32; refine (HR.out _ (by repeat (first | exact Below.refl _ _ | refine Below.drew ?_ | refine below_drewN ?_ _ | refine Below.alloc ?_ (by simp) _))).mono ?_; rintro e w3 ⟨rfl, hb3⟩)
          | (go_at_call 31; refine (HI.out _ hb3).mono ?_; rintro e w4 ⟨rfl, hb4⟩))
        go_ret
        exact ⟨rfl, hb4⟩
end Go.Proofs.YtepcpmeblidkgaaDoor
