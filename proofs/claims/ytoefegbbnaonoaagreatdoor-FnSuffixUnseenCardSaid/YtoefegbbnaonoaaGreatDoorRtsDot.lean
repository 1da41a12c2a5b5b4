/- The reader of whole names, where a dot stands behind the name: the walk. -/
import Derived.Test.YtoefegbbnaonoaaGreatDoorTold
namespace Go.Proofs.YtoefegbbnaonoaaGreatDoor
open Go.RowKit Go.Lib
set_option linter.unusedVariables false
set_option maxRecDepth 100000
attribute [local go_sem] bs_size bs_from bs_toList

set_option maxHeartbeats 2000000 in
theorem rts_dot {w : World} {G t : List UInt8} {st' : St} (hpre : Lib.hasPrefix (G ++ 46 :: t) [95, 82] = true) (h2 : 2 ≤ G.length) (hdot : DotAt (G ++ 46 :: t) G.length) (hl : (G ++ 46 :: t).length ≤ 1000000000000) (hstr : st'.str = []) (hmax : st'.max = 0)
    (hs : Calls Tryz.prog 64 #[.pointer (some ⟨w.heap.size + 2, 0, none⟩)] (rtsWorld w (G.drop 2)) (Done (w.heap.size + 2) (rtsWorld w (G.drop 2)) (.tuple #[]) st')) :
    Calls Tryz.prog 42 #[.string (bs (G ++ 46 :: t)), .slice none 0 0] w fun e w' => e = .returned (.tuple #[.string (bs st'.out), .nilIface]) ∧ Below w.heap.size w w' := by
  have hmf : ∀ (fn : Fn) (first cap : Array Value) (w : World), (Instr.makeFunc fn first cap).run Tryz.prog w = .ok (.func fn first cap) w := fun _ _ _ _ => rfl
  have HP := Lib.hid (prefix_any hpre)
  have hne : G.length ≠ (G ++ 46 :: t).length := by simp
  have HZ := Lib.hid (fun W => (by have := index_any hdot hl W; rw [show idxOf (G ++ 46 :: t) G.length = (G.length : Int) from if_neg hne] at this; exact this : Calls Tryz.prog 63 #[.string (bs (G ++ 46 :: t)), .string ⟨#[46]⟩] W fun e w' => e = .returned (.int .i64 (G.length : Int)) ∧ W = w'))
  have HS := Lib.hid hs
  have h2' : (2 : Int) ≤ (G.length : Int) := by omega
  have hlen : (G ++ 46 :: t).length = G.length + (t.length + 1) := by simp
  have x1 : (bs (G ++ 46 :: t)).extract G.length (G.length + (t.length + 1)) = bs (46 :: t) := by
    rw [bs_extract, List.drop_left, show G.length + (t.length + 1) - G.length = (46 :: t).length by simp, List.take_length]
  have x2 : (bs (G ++ 46 :: t)).extract 0 G.length = bs G := by
    rw [bs_extract, List.drop_zero, Nat.sub_zero, List.take_left]
  have x3 : ((46 :: t : List UInt8) == []) = false := rfl
  have HR := Lib.hid (rtsWorld_res w (G.drop 2))
  have HB := Lib.hid (rtsWorld_below w (G.drop 2))
  have HT := Lib.hid (fun (W : World) (hW : RstO W (w.heap.size + 2) st') => (show W.cell? ⟨w.heap.size + 1 + 1, 1, none⟩ = some (.string (bs [])) ∧ W.cell? ⟨w.heap.size + 1 + 1, 9, none⟩ = some (.int .i64 0) from ⟨by rw [← hstr]; exact hW.str, by rw [← hmax]; exact hW.max⟩))
  have HX := Lib.hid (fun (W W' : World) (hb : Below (w.heap.size + 2 + 1) W W') => (show (W'.cell? ⟨w.heap.size + 1 + 1, 9, none⟩ = W.cell? ⟨w.heap.size + 1 + 1, 9, none⟩ ∧ W'.cell? ⟨w.heap.size, 0, none⟩ = W.cell? ⟨w.heap.size, 0, none⟩ ∧ W'.cell? ⟨w.heap.size + 1, 0, none⟩ = W.cell? ⟨w.heap.size + 1, 0, none⟩ ∧ W'.frozen? ⟨w.heap.size, 0, none⟩ = W.frozen? ⟨w.heap.size, 0, none⟩ ∧ W'.frozen? ⟨w.heap.size + 1, 0, none⟩ = W.frozen? ⟨w.heap.size + 1, 0, none⟩) from
    ⟨hb.cell (p := ⟨w.heap.size + 1 + 1, 9, none⟩) (by simp), hb.cell (p := ⟨w.heap.size, 0, none⟩) (by simp; omega), hb.cell (p := ⟨w.heap.size + 1, 0, none⟩) (by simp), hb.frozen (p := ⟨w.heap.size, 0, none⟩) (by simp; omega), hb.frozen (p := ⟨w.heap.size + 1, 0, none⟩) (by simp)⟩))
  clear hpre hdot hs hstr hmax hne
  generalize G ++ 46 :: t = F at *
  obtain ⟨L, hL⟩ : ∃ L, 46 :: t = L := ⟨_, rfl⟩
  rw [hL] at x1 x3
  clear hL
  go_enter_defers Tryz.func42, Tryz.ntmps42
  go_wp2_with (first | (go_at_call 58; refine (HP.out _).mono ?_; rintro e w1 ⟨rfl, rfl⟩) | (go_at_call 63; refine (HZ.out _).mono ?_; rintro e w1 ⟨rfl, rfl⟩))
  go_loop [38] (fun i => i = .int .i64 0) (fun _ => 0)
  case atStart => exact rfl
  case round =>
    subst hrel
    go_wp2_with (first
      | (go_at_call 64; refine (HS.out).mono ?_; rintro e w1 ⟨rfl, h1, hb1⟩; obtain ⟨c1, c9⟩ := HT.out _ h1; have R1 := HR.out.keep hb1.below (by omega); have r0 := (R1.r0.cell 0).trans rfl; have r1 := (R1.r1.cell 0).trans rfl; have f0 := R1.r0.frozen 0; have f1 := R1.r1.frozen 0)
      | (go_at_call 60; refine (RstO.string h1).mono ?_; rintro e w2 ⟨rfl, hb2⟩; obtain ⟨x1, x2, x3, x4, x5⟩ := HX.out _ _ hb2; rw [c9] at x1; rw [r0] at x2; rw [r1] at x3; rw [f0] at x4; rw [f1] at x5))
    go_loopg [11, 69] 0 (fun m x i wr => x = .bool false ∧ i = .int .i64 0 ∧ wr = w1)
    case atStart => exact ⟨rfl, rfl, rfl⟩
    case round =>
      obtain ⟨rfl, rfl, rfl⟩ := hrel
      go_wp2_with (go_at_call 60; refine (RstO.string h1).mono ?_; rintro e w2 ⟨rfl, hb2⟩; obtain ⟨y1, y2, y3, y4, y5⟩ := HX.out _ _ hb2; rw [c9] at y1; rw [r0] at y2; rw [r1] at y3; rw [f0] at y4; rw [f1] at y5)
      refine leaves_cons (f := 62) (args := #[.pointer (some ⟨w.heap.size, 0, none⟩), .pointer (some ⟨w.heap.size + 1, 0, none⟩)]) (by simp) (by simp [go_sem]) ?_
      refine (catch2_idle _ _).mono ?_
      rintro e u' w3 ⟨rfl, rfl, rfl⟩
      have R3 := (R1.keep hb2 (by omega)).store (bs st'.out) .nilIface
      have c0 := (R3.r0.cell 0).trans rfl
      have c1 := (R3.r1.cell 0).trans rfl
      exact leaves_res2 ⟨rfl, rfl⟩ c0 c1 ⟨rfl, Res2.below ((HB.out.trans (hb1.below.mono (by omega))).trans (hb2.mono (by omega))) _ _⟩

theorem dot_after {G : List UInt8} (h : DotAt G G.length) (t : List UInt8) : DotAt (G ++ 46 :: t) G.length :=
  dotAt_some (fun c hc => by
    obtain ⟨i, hi, rfl⟩ := List.mem_iff_getElem.1 hc
    exact h.2.1 i hi hi)
theorem pre_after {G : List UInt8} (h : PreR G) (t : List UInt8) : Lib.hasPrefix (G ++ 46 :: t) [95, 82] = true := by
  obtain ⟨h1, h2⟩ := h
  match G, h2 with
  | a :: b :: r, _ =>
    simp [Lib.hasPrefix] at h1 ⊢
    exact h1
theorem rust_says_dot {w : World} {G t out : List UInt8} (hP : Pow w w.heap.size) (h : NameSays G out) (ht : (46 :: t).length ≤ 10000000000) :
    Calls Tryz.prog 34 #[.string (bs (G ++ 46 :: t)), .slice none 0 0] w fun e w' => e = .returned (.tuple #[.string (bs out), .nilIface]) ∧ Below w.heap.size w w' := by
  obtain ⟨⟨h1, h2, h3⟩, f, st', hr, h4, rfl⟩ := h
  have hb := rtsWorld_below w (G.drop 2)
  have hs := sym_any (rtsWorld_rst w (G.drop 2)) hr (by show (G.drop 2).length ≤ _; simp; omega) (Int.le_refl 0) (by show 0 + 40 * (G.drop 2).length ≤ _; simp; omega) ((hP.keep hb (Nat.le_refl _)).up (by omega) (by rw [rtsWorld_size]; omega))
  have H := Lib.hid (rts_dot (t := t) (pre_after h1 t) h1.2 (dot_after h2 t) (by rw [List.length_append]; omega) h4 (by rw [rsym_max hr]) hs)
  clear h1 h2 h3 h4 hr hs hb hP ht
  go_enter Tryz.func34, Tryz.ntmps34
  go_wp2_with (go_at_call 42; refine (H.out).mono ?_; rintro e w2 ⟨rfl, hb2⟩)
  go_ret2
  exact ⟨rfl, hb2⟩
theorem told_says_dot {w : World} {G t out : List UInt8} (hP : Pow w w.heap.size) (h : NameSays G out) (ht : (46 :: t).length ≤ 10000000000) :
    Calls Tryz.prog 20 #[.string (bs (G ++ 46 :: t)), .agg #[.bool false, .bool false, .bool false, .bool false, .bool false, .bool false, .bool false, .int .i64 0]] w fun e w' => e = .returned (.tuple #[.string (bs out), .int .i64 0]) ∧ Below w.heap.size w w' := by
  have HR := Lib.hid (fun (W : World) (hb : Below w.heap.size w W) => rust_says_dot (w := W) (t := t) ((hP.keep hb (Nat.le_refl _)).up hb.size (Nat.le_refl _)) h ht)
  have HB := Lib.hid (fun o => (show Below w.heap.size w (w.alloc o) from (Below.refl _ _).alloc (Nat.le_refl _) o))
  clear h hP ht
  go_enter Tryz.func20, Tryz.ntmps20
  go_wp2_with (first
    | (go_at_call 32; refine (list_zero _).mono ?_; rintro e w1 ⟨rfl, hb1⟩; have hb := (HB.out _).trans (hb1.mono (HB.out _).size))
    | (go_at_call 34; refine (HR.out _ hb).mono ?_; rintro e w2 ⟨rfl, hb2⟩))
  go_ret2
  exact ⟨rfl, hb.trans (hb2.mono hb.size)⟩
theorem idTold_dot {w : World} {G t out : List UInt8} (hP : Pow w w.heap.size) (h : NameSays G out) (ht : (46 :: t).length ≤ 10000000000) :
    Calls Tryz.prog 13 #[.string (bs (G ++ 46 :: t)), .string (bs out)] w fun e w' => e = .returned (.bool true) ∧ Below w.heap.size w w' := by
  have HR := Lib.hid (told_says_dot (t := t) hP h ht)
  have e1 : (out == out) = true := by simp
  clear h hP ht
  go_enter Tryz.func13, Tryz.ntmps13
  go_wp2_with (go_at_call 20; refine (HR.out).mono ?_; rintro e w2 ⟨rfl, hb2⟩)
  go_ret
  exact ⟨rfl, hb2⟩
end Go.Proofs.YtoefegbbnaonoaaGreatDoor
