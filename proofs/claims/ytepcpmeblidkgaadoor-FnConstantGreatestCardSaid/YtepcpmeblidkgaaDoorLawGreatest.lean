/- FnConstantGreatest: the walk. -/
import Derived.Test.YtepcpmeblidkgaaDoorLawConst
import Derived.Deep.RegionWith
namespace Go.Proofs.YtepcpmeblidkgaaDoor
open Go.RowKit Go.Lib
set_option linter.unusedVariables false
set_option maxRecDepth 100000
attribute [local go_sem] bs_size bs_toList

theorem conv_one (d : UInt8) (V : World) (b : Nat) (hc : V.cell? ⟨b, 0, none⟩ = some (.int .u8 (d.toNat : Int))) : (convert 22 9 (.slice (some ⟨b, 0, none⟩) 1 1)).run Tryd.prog V = .ok (.string (bs [d])) V := by
  refine Bytes.convert (P := Tryd.prog) (A := some ⟨b, 0, none⟩) (n := 1) (l := [d]) ⟨rfl, .inr ⟨_, 0, rfl, World.block_lt_of_cell? V _ hc, fun j hj => ?_⟩⟩ 1 Tryd.underlying22 Tryd.underlying5 Tryd.underlying9
  have hj0 : j = 0 := by simp at hj; omega
  subst hj0
  exact hc
theorem heap_drewN (W : World) (m : Nat) : (W.drewN m).heap = W.heap := by
  induction m generalizing W with
  | zero => rfl
  | succ m ih => exact ih W.drew
theorem new_one (W : World) (m : Nat) (x : Int) : ((W.drewN m).alloc (.cells #[.int .u8 x] 5)).cell? ⟨W.heap.size, 0, none⟩ = some (.int .u8 x) := by
  have := (Blk.new (W.drewN m) 5 #[Value.int .u8 x]).cell 0
  rw [heap_drewN] at this
  exact this
theorem new_two (W : World) (m : Nat) (x : Int) : ((W.alloc (.cells #[.int .u8 x] 5)).drewN m).cell? ⟨W.heap.size, 0, none⟩ = some (.int .u8 x) := by
  have := (Blk.new W 5 #[Value.int .u8 x]).cell 0
  unfold World.cell? at this ⊢
  rw [heap_drewN]
  exact this
set_option maxHeartbeats 4000000 in
theorem greatest_0 (w : World) (hP : Pow w w.heap.size) (i : Int) (h : (wrap64 (i.tmod 6 + 6)).tmod 6 = ((0 : Nat) : Int)) (l : List UInt8) (hz : ¬ 2147483647 < l.length) :
    Calls Tryd.prog 9 #[.int .i64 i, .string (bs l)] w fun e w' => e = .returned (.bool true) ∧ Below w.heap.size w w' := by
  have hz' : decide ((2147483647:Int) < (l.length : Int)) = false := decide_eq_false (by omega)
  have hx64 := hexL_64 255 (by decide)
  have HU := Lib.hid (fun W : World => (show Calls Tryd.prog 29 #[.int .i64 i] W fun e w' => e = .returned (.int .u8 (104 : Int)) ∧ W = w' from (RustUnsigned_any (k := 0) (by simp) h W).mono fun e w' h => ⟨h.1, h.2.symm⟩))
  have HBt := Lib.hid (fun W : World => (show Calls Tryd.prog 33 #[.int .u8 (104 : Int)] W fun e w' => e = .returned (.tuple #[.int .u64 (8 : Int), .bool false]) ∧ W = w' from bits_any 104 W))
  have HX := Lib.hid (fun W : World => (show Calls Tryd.prog 30 #[.int .u64 (255 : Int)] W fun e w' => e = .returned (.string (bs (hexL 255))) ∧ ∃ m, w' = W.drewN m from hex_any 255 (by decide) W))
  have HD := Lib.hid (fun W : World => (show Calls Tryd.prog 34 #[.int .u64 (255 : Int)] W fun e w' => e = .returned (.string (bs (decDigits 255))) ∧ Below W.heap.size W w' from rustDecimal_any 255 (by decide) W))
  have hr := reads_uns (c := 104) (by decide) (by decide) (n := 255) (by decide) l
  generalize hexL 255 = Hx at *
  generalize decDigits 255 = Dx at *
  obtain ⟨S1, hS1⟩ : ∃ S, (104 : UInt8) :: Hx = S := ⟨_, rfl⟩
  obtain ⟨S2, hS2⟩ : ∃ S, S1 ++ [95] = S := ⟨_, rfl⟩
  have e3 : (104 : UInt8) :: (Hx ++ 95 :: l) = S2 ++ l := by rw [← hS2, ← hS1]; simp
  have n1 : S1.length = Hx.length + 1 := by rw [← hS1]; simp
  have n2 : S2.length = S1.length + 1 := by rw [← hS2]; simp
  rw [e3] at hr
  have a1 : ∀ W, (Op.stringOp .add (bs [104]) (bs Hx)).run Tryd.prog W = .ok (.string (bs S1)) W := by rw [← hS1]; exact add_bs [104] _ (by simp; omega)
  have a2 : ∀ W, (Op.stringOp .add (bs S1) ⟨#[95]⟩).run Tryd.prog W = .ok (.string (bs S2)) W := by rw [← hS2]; exact add_bs S1 [95] (by simp; omega)
  have HI := Lib.hid (fun (W : World) (hb : Below w.heap.size w W) => (constIs_yes (w := W) (c := S2) (l := l) (o := Dx) ((hP.keep hb (Nat.le_refl _)).up hb.size (Nat.le_refl _)) (by omega) hr).mono fun e w' h => (show e = .returned (.bool true) ∧ Below w.heap.size w w' from ⟨h.1, hb.trans (h.2.mono hb.size)⟩))
  have hcu : ∀ (V : World) (b : Nat), V.cell? ⟨b, 0, none⟩ = some (.int .u8 (104 : Int)) → (convert 22 9 (.slice (some ⟨b, 0, none⟩) 1 1)).run Tryd.prog V = .ok (.string (bs [104])) V := conv_one 104
  have hn1 := new_one
  have hn2 := new_two
  clear h hP hr e3 n1 n2 hS1 hS2 hz hx64
  go_enter Tryd.func9, Tryd.ntmps9
  go_wp2_with (first
    | (go_at_call 29; refine (HU.out _).mono ?_; rintro e w2 ⟨rfl, rfl⟩)
    | (go_at_call 33; refine (HBt.out _).mono ?_; rintro e w2 ⟨rfl, rfl⟩))
  go_region_with (first
    | (go_at_call 30; refine (HX.out _).mono ?_; rintro e w2 ⟨rfl, m, rfl⟩)
    | (go_at_call 34; refine (HD.out _).mono ?_; rintro e w3 ⟨rfl, hb3⟩; have hs3 := hb3.size; have hc3 := hb3.cell (p := ⟨w.heap.size, 0, none⟩); have hb3w : Below w.heap.size w w3 := Below.trans (by repeat (first | exact Below.refl _ _ | refine Below.drew ?_ | refine below_drewN ?_ _ | refine Below.alloc ?_ (by simp) _)) (hb3.mono (by simp)))
    | (go_at_call 31; refine (HI.out _ (by repeat (first | exact Below.refl _ _ | exact hb3w | refine Below.drew ?_ | refine below_drewN ?_ _ | refine Below.alloc ?_ (by first | exact hb3w.size | (simp; done) | (simp; omega)) _))).mono ?_; rintro e w4 ⟨rfl, hb4⟩))
  all_goals
    go_wp2
    go_ret
    exact ⟨rfl, hb4⟩
set_option maxHeartbeats 4000000 in
theorem greatest_1 (w : World) (hP : Pow w w.heap.size) (i : Int) (h : (wrap64 (i.tmod 6 + 6)).tmod 6 = ((1 : Nat) : Int)) (l : List UInt8) (hz : ¬ 2147483647 < l.length) :
    Calls Tryd.prog 9 #[.int .i64 i, .string (bs l)] w fun e w' => e = .returned (.bool true) ∧ Below w.heap.size w w' := by
  have hz' : decide ((2147483647:Int) < (l.length : Int)) = false := decide_eq_false (by omega)
  have hx64 := hexL_64 65535 (by decide)
  have HU := Lib.hid (fun W : World => (show Calls Tryd.prog 29 #[.int .i64 i] W fun e w' => e = .returned (.int .u8 (116 : Int)) ∧ W = w' from (RustUnsigned_any (k := 1) (by simp) h W).mono fun e w' h => ⟨h.1, h.2.symm⟩))
  have HBt := Lib.hid (fun W : World => (show Calls Tryd.prog 33 #[.int .u8 (116 : Int)] W fun e w' => e = .returned (.tuple #[.int .u64 (16 : Int), .bool false]) ∧ W = w' from bits_any 116 W))
  have HX := Lib.hid (fun W : World => (show Calls Tryd.prog 30 #[.int .u64 (65535 : Int)] W fun e w' => e = .returned (.string (bs (hexL 65535))) ∧ ∃ m, w' = W.drewN m from hex_any 65535 (by decide) W))
  have HD := Lib.hid (fun W : World => (show Calls Tryd.prog 34 #[.int .u64 (65535 : Int)] W fun e w' => e = .returned (.string (bs (decDigits 65535))) ∧ Below W.heap.size W w' from rustDecimal_any 65535 (by decide) W))
  have hr := reads_uns (c := 116) (by decide) (by decide) (n := 65535) (by decide) l
  generalize hexL 65535 = Hx at *
  generalize decDigits 65535 = Dx at *
  obtain ⟨S1, hS1⟩ : ∃ S, (116 : UInt8) :: Hx = S := ⟨_, rfl⟩
  obtain ⟨S2, hS2⟩ : ∃ S, S1 ++ [95] = S := ⟨_, rfl⟩
  have e3 : (116 : UInt8) :: (Hx ++ 95 :: l) = S2 ++ l := by rw [← hS2, ← hS1]; simp
  have n1 : S1.length = Hx.length + 1 := by rw [← hS1]; simp
  have n2 : S2.length = S1.length + 1 := by rw [← hS2]; simp
  rw [e3] at hr
  have a1 : ∀ W, (Op.stringOp .add (bs [116]) (bs Hx)).run Tryd.prog W = .ok (.string (bs S1)) W := by rw [← hS1]; exact add_bs [116] _ (by simp; omega)
  have a2 : ∀ W, (Op.stringOp .add (bs S1) ⟨#[95]⟩).run Tryd.prog W = .ok (.string (bs S2)) W := by rw [← hS2]; exact add_bs S1 [95] (by simp; omega)
  have HI := Lib.hid (fun (W : World) (hb : Below w.heap.size w W) => (constIs_yes (w := W) (c := S2) (l := l) (o := Dx) ((hP.keep hb (Nat.le_refl _)).up hb.size (Nat.le_refl _)) (by omega) hr).mono fun e w' h => (show e = .returned (.bool true) ∧ Below w.heap.size w w' from ⟨h.1, hb.trans (h.2.mono hb.size)⟩))
  have hcu : ∀ (V : World) (b : Nat), V.cell? ⟨b, 0, none⟩ = some (.int .u8 (116 : Int)) → (convert 22 9 (.slice (some ⟨b, 0, none⟩) 1 1)).run Tryd.prog V = .ok (.string (bs [116])) V := conv_one 116
  have hn1 := new_one
  have hn2 := new_two
  clear h hP hr e3 n1 n2 hS1 hS2 hz hx64
  go_enter Tryd.func9, Tryd.ntmps9
  go_wp2_with (first
    | (go_at_call 29; refine (HU.out _).mono ?_; rintro e w2 ⟨rfl, rfl⟩)
    | (go_at_call 33; refine (HBt.out _).mono ?_; rintro e w2 ⟨rfl, rfl⟩))
  go_region_with (first
    | (go_at_call 30; refine (HX.out _).mono ?_; rintro e w2 ⟨rfl, m, rfl⟩)
    | (go_at_call 34; refine (HD.out _).mono ?_; rintro e w3 ⟨rfl, hb3⟩; have hs3 := hb3.size; have hc3 := hb3.cell (p := ⟨w.heap.size, 0, none⟩); have hb3w : Below w.heap.size w w3 := Below.trans (by repeat (first | exact Below.refl _ _ | refine Below.drew ?_ | refine below_drewN ?_ _ | refine Below.alloc ?_ (by simp) _)) (hb3.mono (by simp)))
    | (go_at_call 31; refine (HI.out _ (by repeat (first | exact Below.refl _ _ | exact hb3w | refine Below.drew ?_ | refine below_drewN ?_ _ | refine Below.alloc ?_ (by first | exact hb3w.size | (simp; done) | (simp; omega)) _))).mono ?_; rintro e w4 ⟨rfl, hb4⟩))
  all_goals
    go_wp2
    go_ret
    exact ⟨rfl, hb4⟩
set_option maxHeartbeats 4000000 in
theorem greatest_2 (w : World) (hP : Pow w w.heap.size) (i : Int) (h : (wrap64 (i.tmod 6 + 6)).tmod 6 = ((2 : Nat) : Int)) (l : List UInt8) (hz : ¬ 2147483647 < l.length) :
    Calls Tryd.prog 9 #[.int .i64 i, .string (bs l)] w fun e w' => e = .returned (.bool true) ∧ Below w.heap.size w w' := by
  have hz' : decide ((2147483647:Int) < (l.length : Int)) = false := decide_eq_false (by omega)
  have hx64 := hexL_64 4294967295 (by decide)
  have HU := Lib.hid (fun W : World => (show Calls Tryd.prog 29 #[.int .i64 i] W fun e w' => e = .returned (.int .u8 (109 : Int)) ∧ W = w' from (RustUnsigned_any (k := 2) (by simp) h W).mono fun e w' h => ⟨h.1, h.2.symm⟩))
  have HBt := Lib.hid (fun W : World => (show Calls Tryd.prog 33 #[.int .u8 (109 : Int)] W fun e w' => e = .returned (.tuple #[.int .u64 (32 : Int), .bool false]) ∧ W = w' from bits_any 109 W))
  have HX := Lib.hid (fun W : World => (show Calls Tryd.prog 30 #[.int .u64 (4294967295 : Int)] W fun e w' => e = .returned (.string (bs (hexL 4294967295))) ∧ ∃ m, w' = W.drewN m from hex_any 4294967295 (by decide) W))
  have HD := Lib.hid (fun W : World => (show Calls Tryd.prog 34 #[.int .u64 (4294967295 : Int)] W fun e w' => e = .returned (.string (bs (decDigits 4294967295))) ∧ Below W.heap.size W w' from rustDecimal_any 4294967295 (by decide) W))
  have hr := reads_uns (c := 109) (by decide) (by decide) (n := 4294967295) (by decide) l
  generalize hexL 4294967295 = Hx at *
  generalize decDigits 4294967295 = Dx at *
  obtain ⟨S1, hS1⟩ : ∃ S, (109 : UInt8) :: Hx = S := ⟨_, rfl⟩
  obtain ⟨S2, hS2⟩ : ∃ S, S1 ++ [95] = S := ⟨_, rfl⟩
  have e3 : (109 : UInt8) :: (Hx ++ 95 :: l) = S2 ++ l := by rw [← hS2, ← hS1]; simp
  have n1 : S1.length = Hx.length + 1 := by rw [← hS1]; simp
  have n2 : S2.length = S1.length + 1 := by rw [← hS2]; simp
  rw [e3] at hr
  have a1 : ∀ W, (Op.stringOp .add (bs [109]) (bs Hx)).run Tryd.prog W = .ok (.string (bs S1)) W := by rw [← hS1]; exact add_bs [109] _ (by simp; omega)
  have a2 : ∀ W, (Op.stringOp .add (bs S1) ⟨#[95]⟩).run Tryd.prog W = .ok (.string (bs S2)) W := by rw [← hS2]; exact add_bs S1 [95] (by simp; omega)
  have HI := Lib.hid (fun (W : World) (hb : Below w.heap.size w W) => (constIs_yes (w := W) (c := S2) (l := l) (o := Dx) ((hP.keep hb (Nat.le_refl _)).up hb.size (Nat.le_refl _)) (by omega) hr).mono fun e w' h => (show e = .returned (.bool true) ∧ Below w.heap.size w w' from ⟨h.1, hb.trans (h.2.mono hb.size)⟩))
  have hcu : ∀ (V : World) (b : Nat), V.cell? ⟨b, 0, none⟩ = some (.int .u8 (109 : Int)) → (convert 22 9 (.slice (some ⟨b, 0, none⟩) 1 1)).run Tryd.prog V = .ok (.string (bs [109])) V := conv_one 109
  have hn1 := new_one
  have hn2 := new_two
  clear h hP hr e3 n1 n2 hS1 hS2 hz hx64
  go_enter Tryd.func9, Tryd.ntmps9
  go_wp2_with (first
    | (go_at_call 29; refine (HU.out _).mono ?_; rintro e w2 ⟨rfl, rfl⟩)
    | (go_at_call 33; refine (HBt.out _).mono ?_; rintro e w2 ⟨rfl, rfl⟩))
  go_region_with (first
    | (go_at_call 30; refine (HX.out _).mono ?_; rintro e w2 ⟨rfl, m, rfl⟩)
    | (go_at_call 34; refine (HD.out _).mono ?_; rintro e w3 ⟨rfl, hb3⟩; have hs3 := hb3.size; have hc3 := hb3.cell (p := ⟨w.heap.size, 0, none⟩); have hb3w : Below w.heap.size w w3 := Below.trans (by repeat (first | exact Below.refl _ _ | refine Below.drew ?_ | refine below_drewN ?_ _ | refine Below.alloc ?_ (by simp) _)) (hb3.mono (by simp)))
    | (go_at_call 31; refine (HI.out _ (by repeat (first | exact Below.refl _ _ | exact hb3w | refine Below.drew ?_ | refine below_drewN ?_ _ | refine Below.alloc ?_ (by first | exact hb3w.size | (simp; done) | (simp; omega)) _))).mono ?_; rintro e w4 ⟨rfl, hb4⟩))
  all_goals
    go_wp2
    go_ret
    exact ⟨rfl, hb4⟩
set_option maxHeartbeats 4000000 in
theorem greatest_3 (w : World) (hP : Pow w w.heap.size) (i : Int) (h : (wrap64 (i.tmod 6 + 6)).tmod 6 = ((3 : Nat) : Int)) (l : List UInt8) (hz : ¬ 2147483647 < l.length) :
    Calls Tryd.prog 9 #[.int .i64 i, .string (bs l)] w fun e w' => e = .returned (.bool true) ∧ Below w.heap.size w w' := by
  have hz' : decide ((2147483647:Int) < (l.length : Int)) = false := decide_eq_false (by omega)
  have hx64 := hexL_64 18446744073709551615 (by decide)
  have HU := Lib.hid (fun W : World => (show Calls Tryd.prog 29 #[.int .i64 i] W fun e w' => e = .returned (.int .u8 (121 : Int)) ∧ W = w' from (RustUnsigned_any (k := 3) (by simp) h W).mono fun e w' h => ⟨h.1, h.2.symm⟩))
  have HBt := Lib.hid (fun W : World => (show Calls Tryd.prog 33 #[.int .u8 (121 : Int)] W fun e w' => e = .returned (.tuple #[.int .u64 (64 : Int), .bool false]) ∧ W = w' from bits_any 121 W))
  have HX := Lib.hid (fun W : World => (show Calls Tryd.prog 30 #[.int .u64 (18446744073709551615 : Int)] W fun e w' => e = .returned (.string (bs (hexL 18446744073709551615))) ∧ ∃ m, w' = W.drewN m from hex_any 18446744073709551615 (by decide) W))
  have HD := Lib.hid (fun W : World => (show Calls Tryd.prog 34 #[.int .u64 (18446744073709551615 : Int)] W fun e w' => e = .returned (.string (bs (decDigits 18446744073709551615))) ∧ Below W.heap.size W w' from rustDecimal_any 18446744073709551615 (by decide) W))
  have hr := reads_uns (c := 121) (by decide) (by decide) (n := 18446744073709551615) (by decide) l
  generalize hexL 18446744073709551615 = Hx at *
  generalize decDigits 18446744073709551615 = Dx at *
  obtain ⟨S1, hS1⟩ : ∃ S, (121 : UInt8) :: Hx = S := ⟨_, rfl⟩
  obtain ⟨S2, hS2⟩ : ∃ S, S1 ++ [95] = S := ⟨_, rfl⟩
  have e3 : (121 : UInt8) :: (Hx ++ 95 :: l) = S2 ++ l := by rw [← hS2, ← hS1]; simp
  have n1 : S1.length = Hx.length + 1 := by rw [← hS1]; simp
  have n2 : S2.length = S1.length + 1 := by rw [← hS2]; simp
  rw [e3] at hr
  have a1 : ∀ W, (Op.stringOp .add (bs [121]) (bs Hx)).run Tryd.prog W = .ok (.string (bs S1)) W := by rw [← hS1]; exact add_bs [121] _ (by simp; omega)
  have a2 : ∀ W, (Op.stringOp .add (bs S1) ⟨#[95]⟩).run Tryd.prog W = .ok (.string (bs S2)) W := by rw [← hS2]; exact add_bs S1 [95] (by simp; omega)
  have HI := Lib.hid (fun (W : World) (hb : Below w.heap.size w W) => (constIs_yes (w := W) (c := S2) (l := l) (o := Dx) ((hP.keep hb (Nat.le_refl _)).up hb.size (Nat.le_refl _)) (by omega) hr).mono fun e w' h => (show e = .returned (.bool true) ∧ Below w.heap.size w w' from ⟨h.1, hb.trans (h.2.mono hb.size)⟩))
  have hcu : ∀ (V : World) (b : Nat), V.cell? ⟨b, 0, none⟩ = some (.int .u8 (121 : Int)) → (convert 22 9 (.slice (some ⟨b, 0, none⟩) 1 1)).run Tryd.prog V = .ok (.string (bs [121])) V := conv_one 121
  have hn1 := new_one
  have hn2 := new_two
  clear h hP hr e3 n1 n2 hS1 hS2 hz hx64
  go_enter Tryd.func9, Tryd.ntmps9
  go_wp2_with (first
    | (go_at_call 29; refine (HU.out _).mono ?_; rintro e w2 ⟨rfl, rfl⟩)
    | (go_at_call 33; refine (HBt.out _).mono ?_; rintro e w2 ⟨rfl, rfl⟩))
  go_region_with (first
    | (go_at_call 30; refine (HX.out _).mono ?_; rintro e w2 ⟨rfl, m, rfl⟩)
    | (go_at_call 34; refine (HD.out _).mono ?_; rintro e w3 ⟨rfl, hb3⟩; have hs3 := hb3.size; have hc3 := hb3.cell (p := ⟨w.heap.size, 0, none⟩); have hb3w : Below w.heap.size w w3 := Below.trans (by repeat (first | exact Below.refl _ _ | refine Below.drew ?_ | refine below_drewN ?_ _ | refine Below.alloc ?_ (by simp) _)) (hb3.mono (by simp)))
    | (go_at_call 31; refine (HI.out _ (by repeat (first | exact Below.refl _ _ | exact hb3w | refine Below.drew ?_ | refine below_drewN ?_ _ | refine Below.alloc ?_ (by first | exact hb3w.size | (simp; done) | (simp; omega)) _))).mono ?_; rintro e w4 ⟨rfl, hb4⟩))
  all_goals
    go_wp2
    go_ret
    exact ⟨rfl, hb4⟩
set_option maxHeartbeats 4000000 in
theorem greatest_4 (w : World) (hP : Pow w w.heap.size) (i : Int) (h : (wrap64 (i.tmod 6 + 6)).tmod 6 = ((4 : Nat) : Int)) (l : List UInt8) (hz : ¬ 2147483647 < l.length) :
    Calls Tryd.prog 9 #[.int .i64 i, .string (bs l)] w fun e w' => e = .returned (.bool true) ∧ Below w.heap.size w w' := by
  have hz' : decide ((2147483647:Int) < (l.length : Int)) = false := decide_eq_false (by omega)
  have hx64 := hexL_64 18446744073709551615 (by decide)
  have HU := Lib.hid (fun W : World => (show Calls Tryd.prog 29 #[.int .i64 i] W fun e w' => e = .returned (.int .u8 (111 : Int)) ∧ W = w' from (RustUnsigned_any (k := 4) (by simp) h W).mono fun e w' h => ⟨h.1, h.2.symm⟩))
  have HBt := Lib.hid (fun W : World => (show Calls Tryd.prog 33 #[.int .u8 (111 : Int)] W fun e w' => e = .returned (.tuple #[.int .u64 (64 : Int), .bool false]) ∧ W = w' from bits_any 111 W))
  have HX := Lib.hid (fun W : World => (show Calls Tryd.prog 30 #[.int .u64 (18446744073709551615 : Int)] W fun e w' => e = .returned (.string (bs (hexL 18446744073709551615))) ∧ ∃ m, w' = W.drewN m from hex_any 18446744073709551615 (by decide) W))
  have HD := Lib.hid (fun W : World => (show Calls Tryd.prog 34 #[.int .u64 (18446744073709551615 : Int)] W fun e w' => e = .returned (.string (bs (decDigits 18446744073709551615))) ∧ Below W.heap.size W w' from rustDecimal_any 18446744073709551615 (by decide) W))
  have hr := reads_uns (c := 111) (by decide) (by decide) (n := 18446744073709551615) (by decide) l
  generalize hexL 18446744073709551615 = Hx at *
  generalize decDigits 18446744073709551615 = Dx at *
  obtain ⟨S1, hS1⟩ : ∃ S, (111 : UInt8) :: Hx = S := ⟨_, rfl⟩
  obtain ⟨S2, hS2⟩ : ∃ S, S1 ++ [95] = S := ⟨_, rfl⟩
  have e3 : (111 : UInt8) :: (Hx ++ 95 :: l) = S2 ++ l := by rw [← hS2, ← hS1]; simp
  have n1 : S1.length = Hx.length + 1 := by rw [← hS1]; simp
  have n2 : S2.length = S1.length + 1 := by rw [← hS2]; simp
  rw [e3] at hr
  have a1 : ∀ W, (Op.stringOp .add (bs [111]) (bs Hx)).run Tryd.prog W = .ok (.string (bs S1)) W := by rw [← hS1]; exact add_bs [111] _ (by simp; omega)
  have a2 : ∀ W, (Op.stringOp .add (bs S1) ⟨#[95]⟩).run Tryd.prog W = .ok (.string (bs S2)) W := by rw [← hS2]; exact add_bs S1 [95] (by simp; omega)
  have HI := Lib.hid (fun (W : World) (hb : Below w.heap.size w W) => (constIs_yes (w := W) (c := S2) (l := l) (o := Dx) ((hP.keep hb (Nat.le_refl _)).up hb.size (Nat.le_refl _)) (by omega) hr).mono fun e w' h => (show e = .returned (.bool true) ∧ Below w.heap.size w w' from ⟨h.1, hb.trans (h.2.mono hb.size)⟩))
  have hcu : ∀ (V : World) (b : Nat), V.cell? ⟨b, 0, none⟩ = some (.int .u8 (111 : Int)) → (convert 22 9 (.slice (some ⟨b, 0, none⟩) 1 1)).run Tryd.prog V = .ok (.string (bs [111])) V := conv_one 111
  have hn1 := new_one
  have hn2 := new_two
  clear h hP hr e3 n1 n2 hS1 hS2 hz hx64
  go_enter Tryd.func9, Tryd.ntmps9
  go_wp2_with (first
    | (go_at_call 29; refine (HU.out _).mono ?_; rintro e w2 ⟨rfl, rfl⟩)
    | (go_at_call 33; refine (HBt.out _).mono ?_; rintro e w2 ⟨rfl, rfl⟩))
  go_region_with (first
    | (go_at_call 30; refine (HX.out _).mono ?_; rintro e w2 ⟨rfl, m, rfl⟩)
    | (go_at_call 34; refine (HD.out _).mono ?_; rintro e w3 ⟨rfl, hb3⟩; have hs3 := hb3.size; have hc3 := hb3.cell (p := ⟨w.heap.size, 0, none⟩); have hb3w : Below w.heap.size w w3 := Below.trans (by repeat (first | exact Below.refl _ _ | refine Below.drew ?_ | refine below_drewN ?_ _ | refine Below.alloc ?_ (by simp) _)) (hb3.mono (by simp)))
    | (go_at_call 31; refine (HI.out _ (by repeat (first | exact Below.refl _ _ | exact hb3w | refine Below.drew ?_ | refine below_drewN ?_ _ | refine Below.alloc ?_ (by first | exact hb3w.size | (simp; done) | (simp; omega)) _))).mono ?_; rintro e w4 ⟨rfl, hb4⟩))
  all_goals
    go_wp2
    go_ret
    exact ⟨rfl, hb4⟩
set_option maxHeartbeats 4000000 in
theorem greatest_5 (w : World) (hP : Pow w w.heap.size) (i : Int) (h : (wrap64 (i.tmod 6 + 6)).tmod 6 = ((5 : Nat) : Int)) (l : List UInt8) (hz : ¬ 2147483647 < l.length) :
    Calls Tryd.prog 9 #[.int .i64 i, .string (bs l)] w fun e w' => e = .returned (.bool true) ∧ Below w.heap.size w w' := by
  have hz' : decide ((2147483647:Int) < (l.length : Int)) = false := decide_eq_false (by omega)
  have hx64 := hexL_64 18446744073709551615 (by decide)
  have HU := Lib.hid (fun W : World => (show Calls Tryd.prog 29 #[.int .i64 i] W fun e w' => e = .returned (.int .u8 (106 : Int)) ∧ W = w' from (RustUnsigned_any (k := 5) (by simp) h W).mono fun e w' h => ⟨h.1, h.2.symm⟩))
  have HBt := Lib.hid (fun W : World => (show Calls Tryd.prog 33 #[.int .u8 (106 : Int)] W fun e w' => e = .returned (.tuple #[.int .u64 (64 : Int), .bool false]) ∧ W = w' from bits_any 106 W))
  have HX := Lib.hid (fun W : World => (show Calls Tryd.prog 30 #[.int .u64 (18446744073709551615 : Int)] W fun e w' => e = .returned (.string (bs (hexL 18446744073709551615))) ∧ ∃ m, w' = W.drewN m from hex_any 18446744073709551615 (by decide) W))
  have HD := Lib.hid (fun W : World => (show Calls Tryd.prog 34 #[.int .u64 (18446744073709551615 : Int)] W fun e w' => e = .returned (.string (bs (decDigits 18446744073709551615))) ∧ Below W.heap.size W w' from rustDecimal_any 18446744073709551615 (by decide) W))
  have hr := reads_uns (c := 106) (by decide) (by decide) (n := 18446744073709551615) (by decide) l
  generalize hexL 18446744073709551615 = Hx at *
  generalize decDigits 18446744073709551615 = Dx at *
  obtain ⟨S1, hS1⟩ : ∃ S, (106 : UInt8) :: Hx = S := ⟨_, rfl⟩
  obtain ⟨S2, hS2⟩ : ∃ S, S1 ++ [95] = S := ⟨_, rfl⟩
  have e3 : (106 : UInt8) :: (Hx ++ 95 :: l) = S2 ++ l := by rw [← hS2, ← hS1]; simp
  have n1 : S1.length = Hx.length + 1 := by rw [← hS1]; simp
  have n2 : S2.length = S1.length + 1 := by rw [← hS2]; simp
  rw [e3] at hr
  have a1 : ∀ W, (Op.stringOp .add (bs [106]) (bs Hx)).run Tryd.prog W = .ok (.string (bs S1)) W := by rw [← hS1]; exact add_bs [106] _ (by simp; omega)
  have a2 : ∀ W, (Op.stringOp .add (bs S1) ⟨#[95]⟩).run Tryd.prog W = .ok (.string (bs S2)) W := by rw [← hS2]; exact add_bs S1 [95] (by simp; omega)
  have HI := Lib.hid (fun (W : World) (hb : Below w.heap.size w W) => (constIs_yes (w := W) (c := S2) (l := l) (o := Dx) ((hP.keep hb (Nat.le_refl _)).up hb.size (Nat.le_refl _)) (by omega) hr).mono fun e w' h => (show e = .returned (.bool true) ∧ Below w.heap.size w w' from ⟨h.1, hb.trans (h.2.mono hb.size)⟩))
  have hcu : ∀ (V : World) (b : Nat), V.cell? ⟨b, 0, none⟩ = some (.int .u8 (106 : Int)) → (convert 22 9 (.slice (some ⟨b, 0, none⟩) 1 1)).run Tryd.prog V = .ok (.string (bs [106])) V := conv_one 106
  have hn1 := new_one
  have hn2 := new_two
  clear h hP hr e3 n1 n2 hS1 hS2 hz hx64
  go_enter Tryd.func9, Tryd.ntmps9
  go_wp2_with (first
    | (go_at_call 29; refine (HU.out _).mono ?_; rintro e w2 ⟨rfl, rfl⟩)
    | (go_at_call 33; refine (HBt.out _).mono ?_; rintro e w2 ⟨rfl, rfl⟩))
  go_region_with (first
    | (go_at_call 30; refine (HX.out _).mono ?_; rintro e w2 ⟨rfl, m, rfl⟩)
    | (go_at_call 34; refine (HD.out _).mono ?_; rintro e w3 ⟨rfl, hb3⟩; have hs3 := hb3.size; have hc3 := hb3.cell (p := ⟨w.heap.size, 0, none⟩); have hb3w : Below w.heap.size w w3 := Below.trans (by repeat (first | exact Below.refl _ _ | refine Below.drew ?_ | refine below_drewN ?_ _ | refine Below.alloc ?_ (by simp) _)) (hb3.mono (by simp)))
    | (go_at_call 31; refine (HI.out _ (by repeat (first | exact Below.refl _ _ | exact hb3w | refine Below.drew ?_ | refine below_drewN ?_ _ | refine Below.alloc ?_ (by first | exact hb3w.size | (simp; done) | (simp; omega)) _))).mono ?_; rintro e w4 ⟨rfl, hb4⟩))
  all_goals
    go_wp2
    go_ret
    exact ⟨rfl, hb4⟩
theorem constGreatest_walk (w : World) (hP : Pow w w.heap.size) (i : Int) (hi : (Lit.int .i64 i).wf = true) (l : List UInt8) (hl : l.length ≤ maxLen) :
    Calls Tryd.prog 9 #[.int .i64 i, .string (bs l)] w fun e w' => e = .returned (.bool true) ∧ Below w.heap.size w w' := by
  by_cases hz : 2147483647 < l.length
  · go_enter Tryd.func9, Tryd.ntmps9
    go_wp2_with fail
    go_ret
    exact ⟨rfl, Below.refl _ _⟩
  · obtain ⟨k, hk, h⟩ := six hi
    rcases hk with rfl | rfl | rfl | rfl | rfl | rfl
    · exact greatest_0 w hP i h l hz
    · exact greatest_1 w hP i h l hz
    · exact greatest_2 w hP i h l hz
    · exact greatest_3 w hP i h l hz
    · exact greatest_4 w hP i h l hz
    · exact greatest_5 w hP i h l hz
end Go.Proofs.YtepcpmeblidkgaaDoor
