/- The reader of whole names under a greatest length: the walk. -/
import Derived.Test.YtoefegbbnaonoaaGreatDoorMax
namespace Go.Proofs.YtoefegbbnaonoaaGreatDoor
open Go.RowKit Go.Lib
set_option linter.unusedVariables false
set_option maxRecDepth 100000
attribute [local go_sem] bs_size bs_from bs_toList

/-- Written so far, under a greatest length M: all of T; or the writing has ended behind M bytes of it. -/
def Lim (M : Nat) (T : List UInt8) (st : St) : Prop := st.max = (M : Int) ∧ ((st.skip = false ∧ st.out = T) ∨ (st.skip = true ∧ M < st.out.length ∧ st.out <+: T))
theorem Lim.putm {M : Nat} {T : List UInt8} {st : St} (h0 : 0 < M) (h : Lim M T st) (l : List UInt8) : Lim M (T ++ l) (st.putm l) := by
  obtain ⟨hm, h⟩ := h
  refine ⟨by rw [putm_max]; exact hm, ?_⟩
  rcases h with ⟨hs, ho⟩ | ⟨hs, ho, hp⟩
  · by_cases hx : st.max < (st.out.length : Int)
    · rw [putm_over hs (by omega) hx]
      exact .inr ⟨rfl, by show M < st.out.length; omega, by show st.out <+: T ++ l; rw [ho]; exact List.prefix_append _ _⟩
    · rw [putm_under hs hx]
      exact .inl ⟨hs, by show st.out ++ l = T ++ l; rw [ho]⟩
  · rw [putm_skip hs]
    exact .inr ⟨hs, ho, hp.trans (List.prefix_append _ _)⟩
theorem lim_take {M : Nat} {T : List UInt8} {st : St} (h : Lim M T st) : st.out.take M = T.take M := by
  rcases h.2 with ⟨_, ho⟩ | ⟨_, ho, r, hr⟩
  · rw [ho]
  · rw [← hr, List.take_append_of_le_length (by omega)]
theorem low_notUp {c : UInt8} (h : isLow c = true) : isUp c = false := by
  have h1 : 97 ≤ c.toNat ∧ c.toNat ≤ 122 := of_decide_eq_true h
  exact decide_eq_false (by omega)
theorem lim_stR {M : Nat} {crate : List UInt8} {st : St} (h0 : 0 < M) (h : Lim M [] st) : ∀ ps : List Part, (∀ p ∈ ps, isLow p.space = true) → Lim M (textR crate ps) (stR crate st ps) := by
  intro ps
  induction ps with
  | nil => intro _; exact h.putm h0 crate
  | cons p ps ih =>
    intro hp
    have hl := low_notUp (hp p (List.mem_cons_self ..))
    have hi := ih (fun q hq => hp q (List.mem_cons_of_mem _ hq))
    have := (hi.putm h0 [58, 58]).putm h0 p.name
    have e1 : stR crate st (p :: ps) = ((stR crate st ps).putm [58, 58]).putm p.name := by
      rw [stR]
      unfold nestSt
      rw [if_neg (by rw [hl]; simp)]
    have e2 : textR crate (p :: ps) = textR crate ps ++ [58, 58] ++ p.name := by
      rw [textR]
      unfold toldOf
      rw [if_neg (by rw [hl]; simp)]
      simp
    rw [e1, e2]
    exact this
/-- The name F is read as the beginning of a text. -/
def NameLims (M : Nat) (F out : List UInt8) : Prop := NameForm F ∧ ∃ f st', rsym f { orig := bs (F.drop 2), str := F.drop 2, max := (M : Int) } = some (some st') ∧ st'.str = [] ∧ st'.out.take M = out.take M

def rtsWorldM (w : World) (l : List UInt8) (M : Nat) : World :=
  ((w.alloc (.cells #[.string ⟨#[]⟩] 9)).alloc (.cells #[.nilIface] 65)).alloc
    (.cells #[.string (bs l), .string (bs l), .int .i64 0, .pointer none, .slice none 0 0, .bool false, .int .i64 0, .int .u8 0, .bool false, .int .i64 (M : Int)] 106)
theorem rtsWorldM_below (w : World) (l : List UInt8) (M : Nat) : Below w.heap.size w (rtsWorldM w l M) := by
  unfold rtsWorldM
  exact (((Below.refl _ _).alloc (Nat.le_refl _) _).alloc (by simp only [World.size_alloc]; omega) _).alloc (by simp only [World.size_alloc]; omega) _
theorem rtsWorldM_size (w : World) (l : List UInt8) (M : Nat) : (rtsWorldM w l M).heap.size = w.heap.size + 3 := by
  unfold rtsWorldM
  simp only [World.size_alloc]
theorem rtsWorldM_res (w : World) (l : List UInt8) (M : Nat) : Res2 (rtsWorldM w l M) w.heap.size (bs []) .nilIface :=
  ⟨((Blk.new _ _ _).alloc _).alloc _, ((Blk.new _ _ _).alloc _).at2 (by simp only [World.size_alloc])⟩
theorem rtsWorldM_rst (w : World) (l : List UInt8) (M : Nat) : RstO (rtsWorldM w l M) (w.heap.size + 2) { orig := bs l, str := l, max := (M : Int) } :=
  ⟨0, 0, .pointer none, .slice none 0 0, (Blk.new _ _ _).at2 (by simp only [World.size_alloc]), .inl rfl, rfl, .inl ⟨rfl, rfl⟩⟩

set_option maxHeartbeats 4000000 in
theorem rts_max {w : World} {F : List UInt8} {st' : St} {g cp p M : Nat} (h1 : 0 < p) (h2p : p ≤ 30) (hM : 2 ^ p = M) (hg : g < w.heap.size) (hc : w.cell? ⟨g, 0, none⟩ = some (.int .i64 ((p : Int) * 65536))) (hpre : PreR F) (hdot : DotAt F F.length) (hl : F.length ≤ 1000000000000) (hstr : st'.str = []) (hmax : st'.max = (M : Int))
    (hs : Calls Tryz.prog 64 #[.pointer (some ⟨w.heap.size + 2, 0, none⟩)] (rtsWorldM w (F.drop 2) M) (Done (w.heap.size + 2) (rtsWorldM w (F.drop 2) M) (.tuple #[]) st')) :
    Calls Tryz.prog 42 #[.string (bs F), .slice (some ⟨g, 0, none⟩) 1 cp] w fun e w' => e = .returned (.tuple #[.string (bs (st'.out.take M)), .nilIface]) ∧ Below w.heap.size w w' := by
  have hmf : ∀ (fn : Fn) (first cap : Array Value) (w : World), (Instr.makeFunc fn first cap).run Tryz.prog w = .ok (.func fn first cap) w := fun _ _ _ _ => rfl
  have HP := Lib.hid (prefix_any hpre.1)
  have HZ := Lib.hid (fun W => (by have := index_any hdot hl W; rw [show idxOf F F.length = -1 from if_pos rfl] at this; exact this : Calls Tryz.prog 63 #[.string (bs F), .string ⟨#[46]⟩] W fun e w' => e = .returned (.int .i64 (-1)) ∧ W = w'))
  have HS := Lib.hid hs
  have h2 : 2 ≤ F.length := hpre.2
  have h2' : (2 : Int) ≤ (F.length : Int) := by omega
  have HI := Lib.hid (fun W => isMax_any W p h1 h2p)
  have HM := Lib.hid (fun W => maxLen_any W p h1 h2p)
  have hpw := pow_lim p h2p
  rw [hM] at HM hpw
  have hp1 : ((p : Int) * 65536 == 1) = false := by simp; omega
  have HR := Lib.hid (rtsWorldM_res w (F.drop 2) M)
  have HB := Lib.hid (rtsWorldM_below w (F.drop 2) M)
  have hc0 := ((rtsWorld_below w (F.drop 2)).cell (p := ⟨g, 0, none⟩) hg).trans hc
  unfold rtsWorld at hc0
  have HT := Lib.hid (fun (W : World) (hW : RstO W (w.heap.size + 2) st') => (show W.cell? ⟨w.heap.size + 1 + 1, 1, none⟩ = some (.string (bs [])) ∧ W.cell? ⟨w.heap.size + 1 + 1, 9, none⟩ = some (.int .i64 (M : Int)) from ⟨by rw [← hstr]; exact hW.str, by rw [← hmax]; exact hW.max⟩))
  have HX := Lib.hid (fun (W W' : World) (hb : Below (w.heap.size + 2 + 1) W W') => (show (W'.cell? ⟨w.heap.size + 1 + 1, 9, none⟩ = W.cell? ⟨w.heap.size + 1 + 1, 9, none⟩ ∧ W'.cell? ⟨w.heap.size, 0, none⟩ = W.cell? ⟨w.heap.size, 0, none⟩ ∧ W'.cell? ⟨w.heap.size + 1, 0, none⟩ = W.cell? ⟨w.heap.size + 1, 0, none⟩ ∧ W'.frozen? ⟨w.heap.size, 0, none⟩ = W.frozen? ⟨w.heap.size, 0, none⟩ ∧ W'.frozen? ⟨w.heap.size + 1, 0, none⟩ = W.frozen? ⟨w.heap.size + 1, 0, none⟩) from
    ⟨hb.cell (p := ⟨w.heap.size + 1 + 1, 9, none⟩) (by simp), hb.cell (p := ⟨w.heap.size, 0, none⟩) (by simp; omega), hb.cell (p := ⟨w.heap.size + 1, 0, none⟩) (by simp), hb.frozen (p := ⟨w.heap.size, 0, none⟩) (by simp; omega), hb.frozen (p := ⟨w.heap.size + 1, 0, none⟩) (by simp)⟩))
  have hM0 : (0 : Int) < (M : Int) := by omega
  obtain ⟨O, hO⟩ : ∃ O, st'.out = O := ⟨_, rfl⟩
  have hx : (bs O).extract 0 M = bs (O.take M) := by rw [bs_extract, List.drop_zero, Nat.sub_zero]
  have hx2 : ¬ (M : Int) < (O.length : Int) → bs O = bs (O.take M) := fun h => by rw [List.take_of_length_le (by omega)]
  replace hx2 := Lib.hid hx2
  clear hpre hdot hl hs hstr hmax hM h1 h2p hc
  go_enter_defers Tryz.func42, Tryz.ntmps42
  go_wp2_with (first | (go_at_call 58; refine (HP.out _).mono ?_; rintro e w1 ⟨rfl, rfl⟩) | (go_at_call 63; refine (HZ.out _).mono ?_; rintro e w1 ⟨rfl, rfl⟩))
  go_loopg [10, 38] 1 (fun m x i wr => (m = 1 ∧ i = .int .i64 0 ∧ wr = ((w.alloc (.cells #[.string ⟨#[]⟩] 9)).alloc (.cells #[.nilIface] 65)).alloc
    (.cells #[.string (bs (F.drop 2)), .string (bs (F.drop 2)), .int .i64 0, .pointer none, .slice none 0 0, .bool false, .int .i64 0, .int .u8 0, .bool false, .int .i64 0] 106)) ∨ (m = 0 ∧ i = .int .i64 1 ∧ wr = rtsWorldM w (F.drop 2) M))
  case atStart => exact .inl ⟨rfl, rfl, rfl⟩
  case round =>
    rcases hrel with ⟨rfl, rfl, rfl⟩ | ⟨rfl, rfl, rfl⟩
    · go_wp2_with (first | (go_at_call 51; refine (HI.out _).mono ?_; rintro e w1 ⟨rfl, rfl⟩) | (go_at_call 52; refine (HM.out _).mono ?_; rintro e w1 ⟨rfl, rfl⟩))
      go_roundg 0
      case measure => omega
      case rel => exact .inr ⟨rfl, rfl, rfl⟩
    · clear hc0
      go_wp2_with (first
        | (go_at_call 64; refine (HS.out).mono ?_; rintro e w1 ⟨rfl, h1, hb1⟩; obtain ⟨c1, c9⟩ := HT.out _ h1; have R1 := HR.out.keep hb1.below (by omega); have r0 := (R1.r0.cell 0).trans rfl; have r1 := (R1.r1.cell 0).trans rfl; have f0 := R1.r0.frozen 0; have f1 := R1.r1.frozen 0)
        | (go_at_call 60; refine (RstO.string h1).mono ?_; rintro e w2 ⟨rfl, hb2⟩; rw [hO]; obtain ⟨x1, x2, x3, x4, x5⟩ := HX.out _ _ hb2; rw [c9] at x1; rw [r0] at x2; rw [r1] at x3; rw [f0] at x4; rw [f1] at x5; by_cases hov : (M : Int) < (O.length : Int)))
      · refine leaves_cons (f := 62) (args := #[.pointer (some ⟨w.heap.size, 0, none⟩), .pointer (some ⟨w.heap.size + 1, 0, none⟩)]) (by simp) (by simp [go_sem]) ?_
        refine (catch2_idle _ _).mono ?_
        rintro e u' w3 ⟨rfl, rfl, rfl⟩
        have R3 := (R1.keep hb2 (by omega)).store (bs (O.take M)) .nilIface
        have c0 := (R3.r0.cell 0).trans rfl
        have c1 := (R3.r1.cell 0).trans rfl
        exact leaves_res2 ⟨rfl, rfl⟩ c0 c1 ⟨congrArg (fun l => Ending.returned (.tuple #[.string (bs (List.take M l)), .nilIface])) hO.symm, Res2.below ((HB.out.trans (hb1.below.mono (by omega))).trans (hb2.mono (by omega))) _ _⟩
      · refine leaves_cons (f := 62) (args := #[.pointer (some ⟨w.heap.size, 0, none⟩), .pointer (some ⟨w.heap.size + 1, 0, none⟩)]) (by simp) (by simp [go_sem]) ?_
        refine (catch2_idle _ _).mono ?_
        rintro e u' w3 ⟨rfl, rfl, rfl⟩
        have R3 := (R1.keep hb2 (by omega)).store (bs O) .nilIface
        have c0 := (R3.r0.cell 0).trans rfl
        have c1 := (R3.r1.cell 0).trans rfl
        exact leaves_res2 ⟨rfl, rfl⟩ c0 c1 ⟨congrArg (fun x => Ending.returned (.tuple #[.string x, .nilIface])) (show bs O = bs (st'.out.take M) by rw [hO]; exact hx2.out hov), Res2.below ((HB.out.trans (hb1.below.mono (by omega))).trans (hb2.mono (by omega))) _ _⟩
theorem rust_max {w : World} {F out : List UInt8} {g cp p : Nat} (h1 : 0 < p) (h2p : p ≤ 30) (hg : g < w.heap.size) (hc : w.cell? ⟨g, 0, none⟩ = some (.int .i64 ((p : Int) * 65536))) (hP : Pow w w.heap.size) (h : NameLims (2 ^ p) F out) :
    Calls Tryz.prog 34 #[.string (bs F), .slice (some ⟨g, 0, none⟩) 1 cp] w fun e w' => e = .returned (.tuple #[.string (bs (out.take (2 ^ p))), .nilIface]) ∧ Below w.heap.size w w' := by
  obtain ⟨⟨k1, k2, k3⟩, f, st', hr, k4, k5⟩ := h
  have hpw := pow_lim p h2p
  obtain ⟨M, hM⟩ : ∃ M, 2 ^ p = M := ⟨_, rfl⟩
  rw [hM] at hr k5 hpw ⊢
  have hb := rtsWorldM_below w (F.drop 2) M
  have hs := sym_any (rtsWorldM_rst w (F.drop 2) M) hr (by show (F.drop 2).length ≤ _; simp; omega) (by show 0 ≤ (M : Int); omega) (by show 0 + 40 * (F.drop 2).length ≤ _; simp; omega) ((hP.keep hb (Nat.le_refl _)).up (by omega) (by rw [rtsWorldM_size]; omega))
  have H := Lib.hid (rts_max (cp := cp) h1 h2p hM hg hc k1 k2 (by omega) k4 (by rw [rsym_max hr]) hs)
  rw [k5] at H
  clear k1 k2 k3 k4 k5 hr hs hb hP hM hpw
  go_enter Tryz.func34, Tryz.ntmps34
  go_wp2_with (go_at_call 42; refine (H.out).mono ?_; rintro e w2 ⟨rfl, hb2⟩)
  go_ret2
  exact ⟨rfl, hb2⟩
theorem told_max {w : World} {F out : List UInt8} {p : Nat} (h1 : 0 < p) (h2p : p ≤ 30) (hP : Pow w w.heap.size) (h : NameLims (2 ^ p) F out) :
    Calls Tryz.prog 20 #[.string (bs F), .agg #[.bool false, .bool false, .bool false, .bool false, .bool false, .bool false, .bool false, .int .i64 (p : Int)]] w fun e w' => e = .returned (.tuple #[.string (bs (out.take (2 ^ p))), .int .i64 0]) ∧ Below w.heap.size w w' := by
  have HR := Lib.hid (fun (W : World) (hb : Below w.heap.size w W) (g cp : Nat) (hg : g < W.heap.size) (hc : W.cell? ⟨g, 0, none⟩ = some (.int .i64 ((p : Int) * 65536))) => rust_max (w := W) (cp := cp) h1 h2p hg hc ((hP.keep hb (Nat.le_refl _)).up hb.size (Nat.le_refl _)) h)
  have HB := Lib.hid (fun o => (show Below w.heap.size w (w.alloc o) from (Below.refl _ _).alloc (Nat.le_refl _) o))
  have HL := Lib.hid (fun W => list_max W p h1 h2p)
  generalize out.take (2 ^ p) = out2 at *
  clear h hP h1 h2p
  go_enter Tryz.func20, Tryz.ntmps20
  go_wp2_with (first
    | (go_at_call 34; refine (HR.out _ hb _ _ hg hcell).mono ?_; rintro e w2 ⟨rfl, hb2⟩)
    | (go_at_call 32; refine (HL.out _).mono ?_; rintro e w1 ⟨⟨g, c, rfl, hg, hcell⟩, hb1⟩; have hb := (HB.out _).trans (hb1.mono (HB.out _).size)))
  go_ret2
  exact ⟨rfl, hb.trans (hb2.mono hb.size)⟩
end Go.Proofs.YtoefegbbnaonoaaGreatDoor
