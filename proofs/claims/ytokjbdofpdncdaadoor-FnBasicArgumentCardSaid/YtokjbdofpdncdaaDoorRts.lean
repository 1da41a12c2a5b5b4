/- The reader of whole names: the walk. -/
import Derived.Test.YtokjbdofpdncdaaDoorSym
import Derived.Test.YtokjbdofpdncdaaDoorCatch2
import Derived.Test.YtokjbdofpdncdaaDoorIdx
import Derived.Test.YtokjbdofpdncdaaDoorString
import Derived.Test.YtokjbdofpdncdaaDoorShelf
import Derived.Deep.RegionWith
namespace Go.Proofs.YtokjbdofpdncdaaDoor
open Go.RowKit Go.Lib
set_option linter.unusedVariables false
set_option maxRecDepth 100000
attribute [local go_sem] bs_size bs_from bs_toList

/-- The world in which the name is read: two results, the fresh reader. -/
def rtsWorld (w : World) (l : List UInt8) : World :=
  ((w.alloc (.cells #[.string ⟨#[]⟩] 9)).alloc (.cells #[.nilIface] 69)).alloc
    (.cells #[.string (bs l), .string (bs l), .int .i64 0, .pointer none, .slice none 0 0, .bool false, .int .i64 0, .int .u8 0, .bool false, .int .i64 0] 125)
theorem rtsWorld_below (w : World) (l : List UInt8) : Below w.heap.size w (rtsWorld w l) := by
  unfold rtsWorld
  exact (((Below.refl _ _).alloc (Nat.le_refl _) _).alloc (by simp only [World.size_alloc]; omega) _).alloc (by simp only [World.size_alloc]; omega) _
theorem rtsWorld_size (w : World) (l : List UInt8) : (rtsWorld w l).heap.size = w.heap.size + 3 := by
  unfold rtsWorld
  simp only [World.size_alloc]
theorem Blk.at2 {w : World} {g g' : Nat} {t : TypeId} {cs : Array Value} (h : Blk w g t cs) (e : g = g') : Blk w g' t cs := e ▸ h
theorem rtsWorld_res (w : World) (l : List UInt8) : Res2 (rtsWorld w l) w.heap.size (bs []) .nilIface :=
  ⟨((Blk.new _ _ _).alloc _).alloc _, ((Blk.new _ _ _).alloc _).at2 (by simp only [World.size_alloc])⟩
theorem rtsWorld_rst (w : World) (l : List UInt8) : RstO (rtsWorld w l) (w.heap.size + 2) { orig := bs l, str := l } :=
  ⟨0, 0, .pointer none, .slice none 0 0, (Blk.new _ _ _).at2 (by simp only [World.size_alloc]), .inl rfl, rfl, .inl ⟨rfl, rfl⟩⟩

theorem leaves_res2 {w : World} {n : Nat} {tmps : Array Value} {R : Ending → World → Prop} {x y : Value}
    (ht : tmps[4]?.getD undef = .pointer (some ⟨n, 0, none⟩) ∧ tmps[5]?.getD undef = .pointer (some ⟨n + 1, 0, none⟩))
    (c0 : w.cell? ⟨n, 0, none⟩ = some x) (c1 : w.cell? ⟨n + 1, 0, none⟩ = some y) (h : R (.returned (.tuple #[x, y])) w) :
    Leaves Tryd.prog Tryd.f83 tmps R [] .returning w := by
  obtain ⟨h4, h5⟩ := ht
  refine ⟨_, ?_, h⟩
  simp [results, Tryd.results83, go_sem, h4, h5, c0, c1]

/-- It begins with _R. -/
def PreR (F : List UInt8) : Prop := Lib.hasPrefix F [95, 82] = true ∧ 2 ≤ F.length
theorem prefix_any {F : List UInt8} {v : Bool} (h : Lib.hasPrefix F [95, 82] = v) (W : World) :
    Calls Tryd.prog 63 #[.string (bs F), .string ⟨#[95, 82]⟩] W fun e w' => e = .returned (.bool v) ∧ W = w' := by
  refine (Tryd.strings_HasPrefix (bs F) (bs [95, 82]) W).mono ?_
  rintro e w' ⟨rfl, rfl⟩
  rw [bs_data, bs_data, h]
  exact ⟨rfl, rfl⟩
def MfTrue : Prop := ∀ (fn : Fn) (first cap : Array Value) (w : World), (Instr.makeFunc fn first cap).run Tryd.prog w = .ok (.func fn first cap) w

set_option maxHeartbeats 2000000 in
theorem rts_fell {w : World} {F : List UInt8} (hpre : PreR F) (hdot : DotAt F F.length) (hl : F.length ≤ 1000000000000)
    (hs : Calls Tryd.prog 106 #[.pointer (some ⟨w.heap.size + 2, 0, none⟩)] (rtsWorld w (F.drop 2)) (Fell (w.heap.size + 2) (rtsWorld w (F.drop 2)))) :
    Calls Tryd.prog 83 #[.string (bs F), .slice none 0 0] w fun e w' => (∃ m o, e = .returned (.tuple #[.string (bs []), errOf m o])) ∧ Below w.heap.size w w' := by
  have hmf : ∀ (fn : Fn) (first cap : Array Value) (w : World), (Instr.makeFunc fn first cap).run Tryd.prog w = .ok (.func fn first cap) w := fun _ _ _ _ => rfl
  have HP := Lib.hid (prefix_any hpre.1)
  have HZ := Lib.hid (fun W => (by have := index_any hdot hl W; rw [show idxOf F F.length = -1 from if_pos rfl] at this; exact this : Calls Tryd.prog 105 #[.string (bs F), .string ⟨#[46]⟩] W fun e w' => e = .returned (.int .i64 (-1)) ∧ W = w'))
  have HS := Lib.hid hs
  have h2 : 2 ≤ F.length := hpre.2
  have h2' : (2 : Int) ≤ (F.length : Int) := by omega
  have HR := Lib.hid (rtsWorld_res w (F.drop 2))
  have HB := Lib.hid (rtsWorld_below w (F.drop 2))
  clear hpre hdot hl hs
  go_enter_defers Tryd.func83, Tryd.ntmps83
  go_wp2_with (first | (go_at_call 63; refine (HP.out _).mono ?_; rintro e w1 ⟨rfl, rfl⟩) | (go_at_call 105; refine (HZ.out _).mono ?_; rintro e w1 ⟨rfl, rfl⟩))
  go_loop [38] (fun i => i = .int .i64 0) (fun _ => 0)
  case atStart => exact rfl
  case round =>
    subst hrel
    go_wp2_with (go_at_call 106; refine (HS.out).mono ?_; rintro e w1 ⟨⟨m, o, rfl⟩, hb1⟩)
    refine leaves_cons (f := 104) (args := #[.pointer (some ⟨w.heap.size, 0, none⟩), .pointer (some ⟨w.heap.size + 1, 0, none⟩)]) (by simp) (by simp [go_sem]) ?_
    refine (catch2_panic (HR.out.keep hb1.below (by omega)) m o).mono ?_
    rintro e u' w3 ⟨rfl, rfl, R3, hb3⟩
    have c0 := (R3.r0.cell 0).trans rfl
    have c1 := (R3.r1.cell 0).trans rfl
    exact leaves_res2 ⟨rfl, rfl⟩ c0 c1 ⟨⟨_, _, rfl⟩, (HB.out.trans (hb1.below.mono (by omega))).trans hb3⟩
theorem RstO.string {w : World} {b : Nat} {st : St} (h : RstO w b st) :
    Calls Tryd.prog 65 #[.pointer (some ⟨b, 3, none⟩)] w fun e w' => e = .returned (.string (bs st.out)) ∧ Below (b + 1) w w' := by
  obtain ⟨o, last, av, bv, hblk, hbuf⟩ := h
  exact string_any (o := 3) (av := av) (bv := bv) hblk.lt (hblk.cell 4) hbuf

set_option maxHeartbeats 2000000 in
theorem rts_ok {w : World} {F : List UInt8} {st' : St} (hpre : PreR F) (hdot : DotAt F F.length) (hl : F.length ≤ 1000000000000) (hstr : st'.str = []) (hmax : st'.max = 0)
    (hs : Calls Tryd.prog 106 #[.pointer (some ⟨w.heap.size + 2, 0, none⟩)] (rtsWorld w (F.drop 2)) (Done (w.heap.size + 2) (rtsWorld w (F.drop 2)) (.tuple #[]) st')) :
    Calls Tryd.prog 83 #[.string (bs F), .slice none 0 0] w fun e w' => e = .returned (.tuple #[.string (bs st'.out), .nilIface]) ∧ Below w.heap.size w w' := by
  have hmf : ∀ (fn : Fn) (first cap : Array Value) (w : World), (Instr.makeFunc fn first cap).run Tryd.prog w = .ok (.func fn first cap) w := fun _ _ _ _ => rfl
  have HP := Lib.hid (prefix_any hpre.1)
  have HZ := Lib.hid (fun W => (by have := index_any hdot hl W; rw [show idxOf F F.length = -1 from if_pos rfl] at this; exact this : Calls Tryd.prog 105 #[.string (bs F), .string ⟨#[46]⟩] W fun e w' => e = .returned (.int .i64 (-1)) ∧ W = w'))
  have HS := Lib.hid hs
  have h2 : 2 ≤ F.length := hpre.2
  have h2' : (2 : Int) ≤ (F.length : Int) := by omega
  have HR := Lib.hid (rtsWorld_res w (F.drop 2))
  have HB := Lib.hid (rtsWorld_below w (F.drop 2))
  have HT := Lib.hid (fun (W : World) (hW : RstO W (w.heap.size + 2) st') => (show W.cell? ⟨w.heap.size + 1 + 1, 1, none⟩ = some (.string (bs [])) ∧ W.cell? ⟨w.heap.size + 1 + 1, 9, none⟩ = some (.int .i64 0) from ⟨by rw [← hstr]; exact hW.str, by rw [← hmax]; exact hW.max⟩))
  have HX := Lib.hid (fun (W W' : World) (hb : Below (w.heap.size + 2 + 1) W W') => (show (W'.cell? ⟨w.heap.size + 1 + 1, 9, none⟩ = W.cell? ⟨w.heap.size + 1 + 1, 9, none⟩ ∧ W'.cell? ⟨w.heap.size, 0, none⟩ = W.cell? ⟨w.heap.size, 0, none⟩ ∧ W'.cell? ⟨w.heap.size + 1, 0, none⟩ = W.cell? ⟨w.heap.size + 1, 0, none⟩ ∧ W'.frozen? ⟨w.heap.size, 0, none⟩ = W.frozen? ⟨w.heap.size, 0, none⟩ ∧ W'.frozen? ⟨w.heap.size + 1, 0, none⟩ = W.frozen? ⟨w.heap.size + 1, 0, none⟩) from
    ⟨hb.cell (p := ⟨w.heap.size + 1 + 1, 9, none⟩) (by simp), hb.cell (p := ⟨w.heap.size, 0, none⟩) (by simp; omega), hb.cell (p := ⟨w.heap.size + 1, 0, none⟩) (by simp), hb.frozen (p := ⟨w.heap.size, 0, none⟩) (by simp; omega), hb.frozen (p := ⟨w.heap.size + 1, 0, none⟩) (by simp)⟩))
  clear hpre hdot hl hs hstr hmax
  go_enter_defers Tryd.func83, Tryd.ntmps83
  go_wp2_with (first | (go_at_call 63; refine (HP.out _).mono ?_; rintro e w1 ⟨rfl, rfl⟩) | (go_at_call 105; refine (HZ.out _).mono ?_; rintro e w1 ⟨rfl, rfl⟩))
  go_loop [38] (fun i => i = .int .i64 0) (fun _ => 0)
  case atStart => exact rfl
  case round =>
    subst hrel
    go_wp2_with (first
      | (go_at_call 106; refine (HS.out).mono ?_; rintro e w1 ⟨rfl, h1, hb1⟩; obtain ⟨c1, c9⟩ := HT.out _ h1; have R1 := HR.out.keep hb1.below (by omega); have r0 := (R1.r0.cell 0).trans rfl; have r1 := (R1.r1.cell 0).trans rfl; have f0 := R1.r0.frozen 0; have f1 := R1.r1.frozen 0)
      | (go_at_call 65; refine (RstO.string h1).mono ?_; rintro e w2 ⟨rfl, hb2⟩; obtain ⟨x1, x2, x3, x4, x5⟩ := HX.out _ _ hb2; rw [c9] at x1; rw [r0] at x2; rw [r1] at x3; rw [f0] at x4; rw [f1] at x5))
    refine leaves_cons (f := 104) (args := #[.pointer (some ⟨w.heap.size, 0, none⟩), .pointer (some ⟨w.heap.size + 1, 0, none⟩)]) (by simp) (by simp [go_sem]) ?_
    refine (catch2_idle _ _).mono ?_
    rintro e u' w3 ⟨rfl, rfl, rfl⟩
    have R3 := (R1.keep hb2 (by omega)).store (bs st'.out) .nilIface
    have c0 := (R3.r0.cell 0).trans rfl
    have c1 := (R3.r1.cell 0).trans rfl
    exact leaves_res2 ⟨rfl, rfl⟩ c0 c1 ⟨rfl, Res2.below ((HB.out.trans (hb1.below.mono (by omega))).trans (hb2.mono (by omega))) _ _⟩
end Go.Proofs.YtokjbdofpdncdaaDoor
