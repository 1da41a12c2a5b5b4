/- The door to whole names without options, down to the laws. -/
import Derived.Test.YtokjbdofpdncdaaDoorRts
import Derived.WideLaws
namespace Go.Proofs.YtokjbdofpdncdaaDoor
open Go.RowKit Go.Lib
set_option linter.unusedVariables false
set_option maxRecDepth 100000
attribute [local go_sem] errOf

theorem rsym_max {f : Nat} {st st' : St} (h : rsym f st = some (some st')) : st'.max = st.max := by
  unfold rsym at h
  split at h
  · cases h
  · split at h
    · cases h
    · cases hp : rpath f st with
      | none => rw [hp] at h; cases h
      | some o =>
        rw [hp] at h
        cases o with
        | none => cases h
        | some s1 =>
          simp only at h
          obtain ⟨_, _, g⟩ := rpath_grows _ _ _ hp
          split at h
          · simp only [Option.some.injEq] at h
            subst h
            exact g
          · obtain ⟨_, _, g2⟩ := rpath_grows _ _ _ h
            rw [g2]
            exact g

/-- What a name's bytes begin with, and how many there are. -/
def NameForm (F : List UInt8) : Prop := PreR F ∧ DotAt F F.length ∧ F.length ≤ 10000000000
/-- The name F is read as a text. -/
def NameSays (F out : List UInt8) : Prop := NameForm F ∧ ∃ f st', rsym f { orig := bs (F.drop 2), str := F.drop 2 } = some (some st') ∧ st'.str = [] ∧ st'.out = out
/-- The name F is refused. -/
def NameFalls (F : List UInt8) : Prop := NameForm F ∧ ∃ f, rsym f { orig := bs (F.drop 2), str := F.drop 2 } = some none

/-- The variable for the error of names that are not mangled. -/
def NotM (w : World) (B : Nat) : Prop := 1 < B ∧ B ≤ w.heap.size ∧ ∃ a : Addr, w.cell? ⟨1, 0, none⟩ = some (.iface 178 (.pointer (some a)))
theorem NotM.keep {w w' : World} {B B' : Nat} (h : NotM w B) (hb : Below B' w w') (hB : B ≤ B') : NotM w' B := by
  obtain ⟨h0, h1, a, h2⟩ := h
  exact ⟨h0, Nat.le_trans h1 hb.size, a, (hb.cell (p := ⟨1, 0, none⟩) (by show 1 < B'; omega)).trans h2⟩

theorem eql_apart (m : ByteArray) (o : Int) (a : Addr) (W : World) : (binOp .eql 69 (.iface 122 (.agg #[.string m, .int .i64 o])) (.iface 178 (.pointer (some a)))).run Tryd.prog W = .ok (.bool false) W := by rfl

theorem fault_fell {w : World} {B : Nat} (h : NotM w B) (m : ByteArray) (o : Int) :
    Calls Tryd.prog 55 #[errOf m o] w fun e w' => e = .returned (.int .i64 2) ∧ w = w' := by
  obtain ⟨_, _, a, hc⟩ := h
  have he := eql_apart m o a
  unfold errOf
  go_enter Tryd.func55, Tryd.ntmps55
  go_wp2
  go_ret
  exact ⟨rfl, rfl⟩

def zeroOpts : Value := .agg #[.bool false, .bool false, .bool false, .bool false, .bool false, .bool false, .bool false, .int .i64 0]
theorem list_zero (w : World) :
    Calls Tryd.prog 23 #[.agg #[.bool false, .bool false, .bool false, .bool false, .bool false, .bool false, .bool false, .int .i64 0]] w fun e w' => e = .returned (.slice none 0 0) ∧ Below w.heap.size w w' := by
  go_enter Tryd.func23, Tryd.ntmps23
  go_wp2
  go_ret
  exact ⟨rfl, (Below.refl _ _).alloc (Nat.le_refl _) _⟩

section
variable {w : World} {F out : List UInt8}
theorem rust_says (hP : Pow w w.heap.size) (h : NameSays F out) :
    Calls Tryd.prog 54 #[.string (bs F), .slice none 0 0] w fun e w' => e = .returned (.tuple #[.string (bs out), .nilIface]) ∧ Below w.heap.size w w' := by
  obtain ⟨⟨h1, h2, h3⟩, f, st', hr, h4, rfl⟩ := h
  have hb := rtsWorld_below w (F.drop 2)
  have hs := sym_any (rtsWorld_rst w (F.drop 2)) hr (by show (F.drop 2).length ≤ _; simp; omega) (Int.le_refl 0) (by show 0 + 40 * (F.drop 2).length ≤ _; simp; omega) ((hP.keep hb (Nat.le_refl _)).up (by omega) (by rw [rtsWorld_size]; omega))
  have H := Lib.hid (rts_ok h1 h2 (by omega) h4 (by rw [rsym_max hr]) hs)
  clear h1 h2 h3 h4 hr hs hb hP
  go_enter Tryd.func54, Tryd.ntmps54
  go_wp2_with (go_at_call 83; refine (H.out).mono ?_; rintro e w2 ⟨rfl, hb2⟩)
  go_ret2
  exact ⟨rfl, hb2⟩
theorem rust_falls (hP : Pow w w.heap.size) (h : NameFalls F) :
    Calls Tryd.prog 54 #[.string (bs F), .slice none 0 0] w fun e w' => (∃ m o, e = .returned (.tuple #[.string (bs []), errOf m o])) ∧ Below w.heap.size w w' := by
  obtain ⟨⟨h1, h2, h3⟩, f, hr⟩ := h
  have hb := rtsWorld_below w (F.drop 2)
  have hs := sym_any (rtsWorld_rst w (F.drop 2)) hr (by show (F.drop 2).length ≤ _; simp; omega) (Int.le_refl 0) (by show 0 + 40 * (F.drop 2).length ≤ _; simp; omega) ((hP.keep hb (Nat.le_refl _)).up (by omega) (by rw [rtsWorld_size]; omega))
  have H := Lib.hid (rts_fell h1 h2 (by omega) hs)
  clear h1 h2 h3 hr hs hb hP
  go_enter Tryd.func54, Tryd.ntmps54
  go_wp2_with (go_at_call 83; refine (H.out).mono ?_; rintro e w2 ⟨⟨m, o, rfl⟩, hb2⟩)
  go_ret2
  exact ⟨⟨m, o, rfl⟩, hb2⟩

theorem told_says (hP : Pow w w.heap.size) (h : NameSays F out) :
    Calls Tryd.prog 30 #[.string (bs F), .agg #[.bool false, .bool false, .bool false, .bool false, .bool false, .bool false, .bool false, .int .i64 0]] w fun e w' => e = .returned (.tuple #[.string (bs out), .int .i64 0]) ∧ Below w.heap.size w w' := by
  have HR := Lib.hid (fun (W : World) (hb : Below w.heap.size w W) => rust_says (w := W) ((hP.keep hb (Nat.le_refl _)).up hb.size (Nat.le_refl _)) h)
  have HB := Lib.hid (fun o => (show Below w.heap.size w (w.alloc o) from (Below.refl _ _).alloc (Nat.le_refl _) o))
  clear h hP
  go_enter Tryd.func30, Tryd.ntmps30
  go_wp2_with (first
    | (go_at_call 23; refine (list_zero _).mono ?_; rintro e w1 ⟨rfl, hb1⟩; have hb := (HB.out _).trans (hb1.mono (HB.out _).size))
    | (go_at_call 54; refine (HR.out _ hb).mono ?_; rintro e w2 ⟨rfl, hb2⟩))
  go_ret2
  exact ⟨rfl, hb.trans (hb2.mono hb.size)⟩
theorem told_falls (hP : Pow w w.heap.size) (hN : NotM w w.heap.size) (h : NameFalls F) :
    Calls Tryd.prog 30 #[.string (bs F), .agg #[.bool false, .bool false, .bool false, .bool false, .bool false, .bool false, .bool false, .int .i64 0]] w fun e w' => e = .returned (.tuple #[.string (bs []), .int .i64 2]) ∧ Below w.heap.size w w' := by
  have HR := Lib.hid (fun (W : World) (hb : Below w.heap.size w W) => rust_falls (w := W) ((hP.keep hb (Nat.le_refl _)).up hb.size (Nat.le_refl _)) h)
  have HB := Lib.hid (fun o => (show Below w.heap.size w (w.alloc o) from (Below.refl _ _).alloc (Nat.le_refl _) o))
  have HN := Lib.hid (fun (W : World) (hb : Below w.heap.size w W) => fault_fell (hN.keep hb (Nat.le_refl _)))
  clear h hP hN
  go_enter Tryd.func30, Tryd.ntmps30
  go_wp2_with (first
    | (go_at_call 23; refine (list_zero _).mono ?_; rintro e w1 ⟨rfl, hb1⟩; have hb := (HB.out _).trans (hb1.mono (HB.out _).size))
    | (go_at_call 54; refine (HR.out _ hb).mono ?_; rintro e w2 ⟨⟨m, o, rfl⟩, hb2⟩; replace hb2 := hb.trans (hb2.mono hb.size))
    | (go_at_call 55; refine (HN.out _ hb2 _ _).mono ?_; rintro e w3 ⟨rfl, rfl⟩))
  go_ret2
  exact ⟨rfl, hb2⟩
end

section
attribute [local go_sem] bs_size bs_toList
variable {w : World} {F out : List UInt8}
end
end Go.Proofs.YtokjbdofpdncdaaDoor
