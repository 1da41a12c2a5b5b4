/- One part of the reader run over a text: what it wrote and left, or its error. -/
import Derived.Test.YtokjbdofpdncdaaDoorString
import Derived.Test.YtokjbdofpdncdaaDoorCatch
import Derived.Test.YtokjbdofpdncdaaDoorAdv
import Derived.Deep.RegionWith
namespace Go.Proofs.YtokjbdofpdncdaaDoor
open Go.RowKit
set_option linter.unusedVariables false
set_option maxRecDepth 100000

/-- The world in which the part is called: three results, the fresh reader. -/
def runWorld (w : World) (s : ByteArray) : World :=
  (((w.alloc (.cells #[.string (bs [])] 9)).alloc (.cells #[.string (bs [])] 9)).alloc (.cells #[.nilIface] 69)).alloc
    (.cells #[.string s, .string s, .int .i64 0, .pointer none, .slice none 0 0, .bool false, .int .i64 0, .int .u8 0, .bool false, .int .i64 0] 125)

theorem runWorld_below (w : World) (s : ByteArray) : Below w.heap.size w (runWorld w s) := by
  unfold runWorld
  exact ((((Below.refl _ _).alloc (Nat.le_refl _) _).alloc (by simp only [World.size_alloc]; omega) _).alloc (by simp only [World.size_alloc]; omega) _).alloc (by simp only [World.size_alloc]; omega) _
theorem runWorld_size (w : World) (s : ByteArray) : (runWorld w s).heap.size = w.heap.size + 4 := by
  unfold runWorld
  simp only [World.size_alloc]
theorem Blk.at_ {w : World} {g g' : Nat} {t : TypeId} {cs : Array Value} (h : Blk w g t cs) (e : g = g') : Blk w g' t cs := e ▸ h
theorem runWorld_res (w : World) (s : ByteArray) : Res3 (runWorld w s) w.heap.size (bs []) (bs []) .nilIface := by
  refine ⟨(((Blk.new _ _ _).alloc _).alloc _).alloc _, ?_, ?_⟩
  · exact (((Blk.new _ _ _).alloc _).alloc _).at_ (by simp only [World.size_alloc])
  · exact ((Blk.new _ _ _).alloc _).at_ (by simp only [World.size_alloc])
theorem runWorld_rst (w : World) (s : ByteArray) : Rst (runWorld w s) (w.heap.size + 3) { orig := s, str := s.data.toList } := by
  refine ⟨0, .pointer none, .slice none 0 0, ?_, .inl rfl, rfl, .inl ⟨rfl, rfl⟩⟩
  unfold rstCells
  simp only [bs_of]
  exact (Blk.new _ _ _).at_ (by simp only [World.size_alloc])

/-- How the part may end: behind a return the results are as they were and the reader is there; a panic is the reader's own. -/
def PartEnd (n : Nat) (st' : St) (ok : Bool) (e : Ending) (w' : World) : Prop :=
  Res3 w' n (bs []) (bs []) .nilIface ∧
  match ok with
  | true => e = .returned (.tuple #[]) ∧ ∃ o, Rst w' (n + 3) { st' with off := o }
  | false => Failed e

theorem leaves_res3 {w : World} {n : Nat} {tmps : Array Value} {R : Ending → World → Prop} {x y z : Value}
    (ht : tmps[4]?.getD undef = .pointer (some ⟨n, 0, none⟩) ∧ tmps[5]?.getD undef = .pointer (some ⟨n + 1, 0, none⟩) ∧ tmps[6]?.getD undef = .pointer (some ⟨n + 2, 0, none⟩))
    (c0 : w.cell? ⟨n, 0, none⟩ = some x) (c1 : w.cell? ⟨n + 1, 0, none⟩ = some y) (c2 : w.cell? ⟨n + 2, 0, none⟩ = some z) (h : R (.returned (.tuple #[x, y, z])) w) :
    Leaves Tryd.prog Tryd.f51 tmps R [] .returning w := by
  obtain ⟨h4, h5, h6⟩ := ht
  refine ⟨_, ?_, h⟩
  simp [results, Tryd.results51, go_sem, h4, h5, h6, c0, c1, c2]

theorem run_ok {s : ByteArray} {K : FuncId} {cap args : Array Value} {w : World} {st' : St} {QB : World → Prop}
    (hK : ∀ args W, (callFunc K args).run Tryd.prog W = .ok (.enter K args) W)
    (ha : #[.pointer (some ⟨w.heap.size + 3, 0, none⟩)] ++ cap = args)
    (hb : Calls Tryd.prog K args (runWorld w s) fun e w' => PartEnd w.heap.size st' true e w' ∧ QB w') :
    Calls Tryd.prog 51 #[.string s, .func (.func K) #[] cap] w fun e w'' =>
      e = .returned (.tuple #[.string (bs st'.out), .string (bs st'.str), .nilIface]) ∧ ∃ w', QB w' ∧ Below w.heap.size w' w'' := by
  have hmf : ∀ (fn : Fn) (first cap : Array Value) (w : World), (Instr.makeFunc fn first cap).run Tryd.prog w = .ok (.func fn first cap) w := fun _ _ _ _ => rfl
  rw [← ha] at hb
  have HB := Lib.hid hb
  clear hb ha
  go_enter_defers Tryd.func51, Tryd.ntmps51
  go_wp2_with (refine (HB.out).mono ?_; rintro e w1 ⟨⟨hres, rfl, o, hr⟩, hq⟩)
  have R0 : w1.cell? ⟨w.heap.size, 0, none⟩ = some (.string (bs [])) := (hres.r0.cell 0).trans rfl
  have R1 : w1.cell? ⟨w.heap.size + 1, 0, none⟩ = some (.string (bs [])) := (hres.r1.cell 0).trans rfl
  have R2 : w1.cell? ⟨w.heap.size + 1 + 1, 0, none⟩ = some .nilIface := (hres.r2.cell 0).trans rfl
  have F0 := hres.r0.frozen 0
  have F1 := hres.r1.frozen 0
  have F2 : w1.frozen? ⟨w.heap.size + 1 + 1, 0, none⟩ = false := hres.r2.frozen 0
  have C1 : w1.cell? ⟨w.heap.size + 1 + 1 + 1, 1, none⟩ = some (.string (bs st'.str)) := hr.str
  obtain ⟨last, av, bv, hblk, hbuf⟩ := hr
  have hS : Calls Tryd.prog 65 #[.pointer (some ⟨w.heap.size + 1 + 1 + 1, 3, none⟩)] w1.drew fun e w' => e = .returned (.string (bs st'.out)) ∧ Below (w.heap.size + 4) w1.drew w' :=
    string_any (w := w1.drew) (o := 3) (av := av) (bv := bv) hblk.lt (hblk.cell 4) hbuf
  have HS := Lib.hid hS
  have HB2 : ∀ w2, Below (w.heap.size + 4) w1.drew w2 → w2.cell? ⟨w.heap.size, 0, none⟩ = some (.string (bs [])) ∧ w2.cell? ⟨w.heap.size + 1, 0, none⟩ = some (.string (bs [])) ∧ w2.cell? ⟨w.heap.size + 1 + 1, 0, none⟩ = some .nilIface ∧
      w2.cell? ⟨w.heap.size + 1 + 1 + 1, 1, none⟩ = some (.string (bs st'.str)) ∧ w2.frozen? ⟨w.heap.size, 0, none⟩ = false ∧ w2.frozen? ⟨w.heap.size + 1, 0, none⟩ = false ∧ w2.frozen? ⟨w.heap.size + 1 + 1, 0, none⟩ = false := fun w2 hb =>
    ⟨(hb.cell (p := ⟨w.heap.size, 0, none⟩) (by simp)).trans R0, (hb.cell (p := ⟨w.heap.size + 1, 0, none⟩) (by simp)).trans R1, (hb.cell (p := ⟨w.heap.size + 1 + 1, 0, none⟩) (by simp)).trans R2, (hb.cell (p := ⟨w.heap.size + 1 + 1 + 1, 1, none⟩) (by simp)).trans C1,
      (hb.frozen (p := ⟨w.heap.size, 0, none⟩) (by simp)).trans F0, (hb.frozen (p := ⟨w.heap.size + 1, 0, none⟩) (by simp)).trans F1, (hb.frozen (p := ⟨w.heap.size + 1 + 1, 0, none⟩) (by simp)).trans F2⟩
  have HBh := Lib.hid HB2
  clear hS HB2
  refine wp_mono (Q := Exit.then _ (fun _ _ _ => False)) ?_ (by rintro (_ | _ | _ | _ | _ | _) a w h <;> first | exact h | exact h.elim)
  go_region_with (go_at_call 65; refine (HS.out).mono ?_; rintro e w2 ⟨rfl, hb2⟩; obtain ⟨q0, q1, q2, q3, q4, q5, q6⟩ := HBh.out w2 hb2)
  all_goals
    go_wp2
    refine leaves_cons (f := 79) (args := #[.pointer (some ⟨w.heap.size, 0, none⟩), .pointer (some ⟨w.heap.size + 1, 0, none⟩), .pointer (some ⟨w.heap.size + 2, 0, none⟩)]) (by simp) (by simp [go_sem]) ?_
    refine (catch_idle _ _).mono ?_
    rintro e u' w3 ⟨rfl, rfl, rfl⟩
    have R3 := (hres.drew.keep hb2 (by omega)).store (bs st'.out) (bs st'.str) .nilIface
    have c0 := (R3.r0.cell 0).trans rfl
    have c1 := (R3.r1.cell 0).trans rfl
    have c2 := (R3.r2.cell 0).trans rfl
    exact leaves_res3 ⟨rfl, rfl, rfl⟩ c0 c1 c2 ⟨rfl, w1, hq, Res3.below (((Below.refl _ _).drew).trans (hb2.mono (by omega))) _ _ _⟩

theorem run_fell {s : ByteArray} {K : FuncId} {cap args : Array Value} {w : World} {st' : St} {QB : World → Prop}
    (hK : ∀ args W, (callFunc K args).run Tryd.prog W = .ok (.enter K args) W)
    (ha : #[.pointer (some ⟨w.heap.size + 3, 0, none⟩)] ++ cap = args)
    (hb : Calls Tryd.prog K args (runWorld w s) fun e w' => PartEnd w.heap.size st' false e w' ∧ QB w') :
    Calls Tryd.prog 51 #[.string s, .func (.func K) #[] cap] w fun e w'' =>
      (∃ m o, e = .returned (.tuple #[.string (bs []), .string (bs []), errOf m o])) ∧ ∃ w', QB w' ∧ Below w.heap.size w' w'' := by
  have hmf : ∀ (fn : Fn) (first cap : Array Value) (w : World), (Instr.makeFunc fn first cap).run Tryd.prog w = .ok (.func fn first cap) w := fun _ _ _ _ => rfl
  rw [← ha] at hb
  have HB := Lib.hid hb
  clear hb ha
  go_enter_defers Tryd.func51, Tryd.ntmps51
  go_wp2_with (refine (HB.out).mono ?_; rintro e w1 ⟨⟨hres, m, o, rfl⟩, hq⟩)
  refine leaves_cons (f := 79) (args := #[.pointer (some ⟨w.heap.size, 0, none⟩), .pointer (some ⟨w.heap.size + 1, 0, none⟩), .pointer (some ⟨w.heap.size + 2, 0, none⟩)]) (by simp) (by simp [go_sem]) ?_
  refine (catch_panic hres m o).mono ?_
  rintro e u' w3 ⟨rfl, rfl, R3, hb3⟩
  have c0 := (R3.r0.cell 0).trans rfl
  have c1 := (R3.r1.cell 0).trans rfl
  have c2 := (R3.r2.cell 0).trans rfl
  exact leaves_res3 ⟨rfl, rfl, rfl⟩ c0 c1 c2 ⟨⟨_, _, rfl⟩, w1, hq, hb3⟩
end Go.Proofs.YtokjbdofpdncdaaDoor
