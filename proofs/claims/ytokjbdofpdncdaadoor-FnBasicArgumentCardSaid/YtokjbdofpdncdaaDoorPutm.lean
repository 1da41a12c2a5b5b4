/- The reader's own writing, where a length may be asked. -/
import Derived.Test.YtokjbdofpdncdaaDoorByte
import Derived.Test.YtokjbdofpdncdaaDoorPathP
import Derived.Deep.QuietTactic
import Derived.BigQuiet
namespace Go.Proofs.YtokjbdofpdncdaaDoor
open Go.RowKit
set_option linter.unusedVariables false
set_option maxRecDepth 100000

theorem putm_zero {st : St} (h : st.max = 0) (l : List UInt8) : st.putm l = st.put l := by
  unfold St.putm St.put
  rw [h]
  split
  · rfl
  · rw [if_neg (by omega)]
theorem putm_skip {st : St} (h : st.skip = true) (l : List UInt8) : st.putm l = st := by simp [St.putm, h]
theorem putm_over {st : St} (h : st.skip = false) (h0 : 0 < st.max) (h1 : st.max < (st.out.length : Int)) (l : List UInt8) : st.putm l = { st with skip := true } := by
  unfold St.putm
  rw [if_neg (by simp [h]), if_pos ⟨h0, h1⟩]
theorem putm_under {st : St} (h : st.skip = false) (h1 : ¬ st.max < (st.out.length : Int)) (l : List UInt8) : st.putm l = { st with out := st.out ++ l } := by
  unfold St.putm
  rw [if_neg (by simp [h]), if_neg (fun h2 => h1 h2.2)]

theorem write_over {w : World} {b : Nat} {st : St} (h : Rst w b st) (hs : st.skip = false) (h0 : 0 < st.max) (h1 : st.max < (st.out.length : Int)) (s : ByteArray) :
    Calls Tryd.prog 82 #[.pointer (some ⟨b, 0, none⟩), .string s] w (Done b w (.tuple #[]) { st with skip := true }) := by
  have c5 : w.cell? ⟨b, 5, none⟩ = some (.bool false) := by rw [h.skip, hs]
  have c9 := h.max
  have HL := Lib.hid (fun n => len_any (h.drewN n))
  have H := Lib.hid h
  have f5 := h.free 5
  have t0 : decide ((0:Int) < st.max) = true := decide_eq_true h0
  have t1 : decide (st.max < (st.out.length : Int)) = true := decide_eq_true h1
  obtain ⟨M, hM⟩ : ∃ M, st.max = M := ⟨_, rfl⟩
  rw [hM] at c9 h0 h1 t0 t1
  clear hM h hs
  go_enter Tryd.func82, Tryd.ntmps82
  go_wp2_with fail
  go_quiet ((go_at_call 60; exact Calls.quiet_of_same (HL.out _)))
  go_wp2
  go_end0
  exact ⟨rfl, ⟨_, (H.out.drewN nq).setSkip true⟩, ((Keep.refl b w).drewN nq).setCell rfl _⟩
theorem byte_over {w : World} {b : Nat} {st : St} (h : Rst w b st) (hs : st.skip = false) (h0 : 0 < st.max) (h1 : st.max < (st.out.length : Int)) (c : Int) :
    Calls Tryd.prog 95 #[.pointer (some ⟨b, 0, none⟩), .int .u8 c] w (Done b w (.tuple #[]) { st with skip := true }) := by
  have c5 : w.cell? ⟨b, 5, none⟩ = some (.bool false) := by rw [h.skip, hs]
  have c9 := h.max
  have HL := Lib.hid (fun n => len_any (h.drewN n))
  have H := Lib.hid h
  have f5 := h.free 5
  have t0 : decide ((0:Int) < st.max) = true := decide_eq_true h0
  have t1 : decide (st.max < (st.out.length : Int)) = true := decide_eq_true h1
  obtain ⟨M, hM⟩ : ∃ M, st.max = M := ⟨_, rfl⟩
  rw [hM] at c9 h0 h1 t0 t1
  clear hM h hs
  go_enter Tryd.func95, Tryd.ntmps95
  go_wp2_with fail
  go_quiet ((go_at_call 60; exact Calls.quiet_of_same (HL.out _)))
  go_wp2
  go_end0
  exact ⟨rfl, ⟨_, (H.out.drewN nq).setSkip true⟩, ((Keep.refl b w).drewN nq).setCell rfl _⟩

theorem write_under {w : World} {b m : Nat} {st : St} {s : ByteArray} {c : UInt8} (h : Rst w b st) (hs : st.skip = false) (h0 : 0 < st.max) (h1 : ¬ st.max < (st.out.length : Int)) (hl : s.size = m + 1) (hg : ∀ hh, s[m]'hh = c) (hl63 : m < 9223372036854775807)
    (HW : ∀ n, Calls Tryd.prog 62 #[.pointer (some ⟨b, 3, none⟩), .string s] ((w.drewN n).setCell ⟨b, 7, none⟩ (.int .u8 (c.toNat : Int))) fun e w' =>
      (∃ v, e = .returned v) ∧ Rst w' b { st with out := st.out ++ s.data.toList } ∧ Keep b ((w.drewN n).setCell ⟨b, 7, none⟩ (.int .u8 (c.toNat : Int))) w') :
    Calls Tryd.prog 82 #[.pointer (some ⟨b, 0, none⟩), .string s] w (Done b w (.tuple #[]) { st with out := st.out ++ s.data.toList }) := by
  have c5 : w.cell? ⟨b, 5, none⟩ = some (.bool false) := by rw [h.skip, hs]
  have c9 := h.max
  have HL := Lib.hid (fun n => len_any (h.drewN n))
  obtain ⟨last, c7⟩ : ∃ last, w.cell? ⟨b, 7, none⟩ = some (.int .u8 last) := by
    obtain ⟨last, _, _, hb, _⟩ := h
    exact ⟨last, hb.cell 7⟩
  have f7 := h.free 7
  have t0 : decide ((0:Int) < st.max) = true := decide_eq_true h0
  have t1 : decide (st.max < (st.out.length : Int)) = false := decide_eq_false h1
  have hp : (0:Int) < ((s.size : Nat) : Int) := by omega
  have hw : wrap64 (((s.size : Nat) : Int) - 1) = (m : Int) := by rw [hl]; show wrap64 (((m + 1 : Nat) : Int) - 1) = _; rw [show ((m + 1 : Nat) : Int) - 1 = (m : Int) by omega]; exact IntWalk.wrap64_in _ (by omega)
  have hb : m < s.size := by omega
  have hbi : (m : Int) < ((s.size : Nat) : Int) := by omega
  have HW' := Lib.hid HW
  obtain ⟨M, hM⟩ : ∃ M, st.max = M := ⟨_, rfl⟩
  rw [hM] at c9 h0 h1 t0 t1
  clear hM h hs hl hl63 HW
  go_enter Tryd.func82, Tryd.ntmps82
  go_wp2_with fail
  go_quiet ((go_at_call 60; exact Calls.quiet_of_same (HL.out _)))
  go_wp2_with (go_at_call 62; refine (HW'.out _).mono ?_; rintro e w2 ⟨⟨v, rfl⟩, hr, hb2⟩)
  go_end0
  exact ⟨rfl, ⟨_, hr⟩, (((Keep.refl b w).drewN nq).setCell (p := ⟨b, 7, none⟩) rfl _).trans hb2⟩
theorem write_under0 {w : World} {b : Nat} {st : St} (h : Rst w b st) (hs : st.skip = false) (h0 : 0 < st.max) (h1 : ¬ st.max < (st.out.length : Int)) :
    Calls Tryd.prog 82 #[.pointer (some ⟨b, 0, none⟩), .string (bs [])] w (Done b w (.tuple #[]) st) := by
  have c5 : w.cell? ⟨b, 5, none⟩ = some (.bool false) := by rw [h.skip, hs]
  have c9 := h.max
  have HL := Lib.hid (fun n => len_any (h.drewN n))
  have H := Lib.hid h
  have t0 : decide ((0:Int) < st.max) = true := decide_eq_true h0
  have t1 : decide (st.max < (st.out.length : Int)) = false := decide_eq_false h1
  obtain ⟨M, hM⟩ : ∃ M, st.max = M := ⟨_, rfl⟩
  rw [hM] at c9 h0 h1 t0 t1
  clear hM h hs
  go_enter Tryd.func82, Tryd.ntmps82
  go_wp2_with fail
  go_quiet ((go_at_call 60; exact Calls.quiet_of_same (HL.out _)))
  go_wp2
  go_end0
  exact ⟨rfl, ⟨_, H.out.drewN nq⟩, (Keep.refl b w).drewN nq⟩
theorem byte_under {w : World} {b : Nat} {st : St} (c : UInt8) (h : Rst w b st) (hs : st.skip = false) (h0 : 0 < st.max) (h1 : ¬ st.max < (st.out.length : Int))
    (HW : ∀ n, Calls Tryd.prog 64 #[.pointer (some ⟨b, 3, none⟩), .int .u8 (c.toNat : Int)] ((w.drewN n).setCell ⟨b, 7, none⟩ (.int .u8 (c.toNat : Int))) fun e w' =>
      (∃ v, e = .returned v) ∧ Rst w' b { st with out := st.out ++ [c] } ∧ Keep b ((w.drewN n).setCell ⟨b, 7, none⟩ (.int .u8 (c.toNat : Int))) w') :
    Calls Tryd.prog 95 #[.pointer (some ⟨b, 0, none⟩), .int .u8 (c.toNat : Int)] w (Done b w (.tuple #[]) { st with out := st.out ++ [c] }) := by
  have c5 : w.cell? ⟨b, 5, none⟩ = some (.bool false) := by rw [h.skip, hs]
  have c9 := h.max
  have HL := Lib.hid (fun n => len_any (h.drewN n))
  obtain ⟨last, c7⟩ : ∃ last, w.cell? ⟨b, 7, none⟩ = some (.int .u8 last) := by
    obtain ⟨last, _, _, hb, _⟩ := h
    exact ⟨last, hb.cell 7⟩
  have f7 := h.free 7
  have t0 : decide ((0:Int) < st.max) = true := decide_eq_true h0
  have t1 : decide (st.max < (st.out.length : Int)) = false := decide_eq_false h1
  have HW' := Lib.hid HW
  obtain ⟨M, hM⟩ : ∃ M, st.max = M := ⟨_, rfl⟩
  rw [hM] at c9 h0 h1 t0 t1
  clear hM h hs HW
  go_enter Tryd.func95, Tryd.ntmps95
  go_wp2_with fail
  go_quiet ((go_at_call 60; exact Calls.quiet_of_same (HL.out _)))
  go_wp2_with (go_at_call 64; refine (HW'.out _).mono ?_; rintro e w2 ⟨⟨v, rfl⟩, hr, hb2⟩)
  go_end0
  exact ⟨rfl, ⟨_, hr⟩, (((Keep.refl b w).drewN nq).setCell (p := ⟨b, 7, none⟩) rfl _).trans hb2⟩

theorem write_m {w : World} {b : Nat} {st : St} (h : Rst w b st) (hm : 0 ≤ st.max) (l : List UInt8) (hlen : st.out.length + l.length ≤ 140737488355328) :
    Calls Tryd.prog 82 #[.pointer (some ⟨b, 0, none⟩), .string (bs l)] w (Done b w (.tuple #[]) (st.putm l)) := by
  by_cases hs : st.skip = true
  · rw [putm_skip hs]
    exact write_skip h hs _
  · have hs : st.skip = false := by simpa using hs
    by_cases h0 : st.max = 0
    · rw [putm_zero h0]
      exact write_any h h0 l hlen
    · by_cases h1 : st.max < (st.out.length : Int)
      · rw [putm_over hs (by omega) h1]
        exact write_over h hs (by omega) h1 _
      · rw [putm_under hs h1]
        rcases List.eq_nil_or_concat l with rfl | ⟨i, c, rfl⟩
        · have := write_under0 h hs (by omega) h1
          rw [List.append_nil]
          exact this
        · have HW := fun n => builderWrite_any ((h.drewN n).setLast (c.toNat : Int)) (i ++ [c]) (by simpa using hlen)
          have := write_under (s := bs (i ++ [c])) (m := i.length) (c := c) h hs (by omega) h1 (by rw [bs_size]; simp) (fun hh => by rw [bs_get]; simp) (by simp at hlen; omega) (by rw [bs_data]; exact HW)
          rw [bs_data] at this
          rw [List.concat_eq_append]
          exact this
theorem byte_m {w : World} {b : Nat} {st : St} (h : Rst w b st) (hm : 0 ≤ st.max) (c : UInt8) (hlen : st.out.length + 1 ≤ 140737488355328) :
    Calls Tryd.prog 95 #[.pointer (some ⟨b, 0, none⟩), .int .u8 (c.toNat : Int)] w (Done b w (.tuple #[]) (st.putm [c])) := by
  by_cases hs : st.skip = true
  · rw [putm_skip hs]
    exact byte_skip h hs _
  · have hs : st.skip = false := by simpa using hs
    by_cases h0 : st.max = 0
    · rw [putm_zero h0]
      exact byte_any h h0 c hlen
    · by_cases h1 : st.max < (st.out.length : Int)
      · rw [putm_over hs (by omega) h1]
        exact byte_over h hs (by omega) h1 _
      · rw [putm_under hs h1]
        exact byte_under c h hs (by omega) h1 (fun n => builderByte_any ((h.drewN n).setLast (c.toNat : Int)) c hlen)

/-! The same, wherever the reader stands. -/
def RstO (w : World) (b : Nat) (st : St) : Prop := ∃ o, Rst w b { st with off := o }
theorem putm_off (s : St) (o : Int) (l : List UInt8) : ({ s with off := o } : St).putm l = { orig := s.orig, str := (s.putm l).str, off := o, out := (s.putm l).out, skip := (s.putm l).skip, life := (s.putm l).life, noGen := (s.putm l).noGen, max := (s.putm l).max } := by
  unfold St.putm
  dsimp only
  split
  · rfl
  · split <;> rfl
theorem write_o {w : World} {b : Nat} {st : St} (h : RstO w b st) (hm : 0 ≤ st.max) (l : List UInt8) (hlen : st.out.length + l.length ≤ 140737488355328) :
    Calls Tryd.prog 82 #[.pointer (some ⟨b, 0, none⟩), .string (bs l)] w (Done b w (.tuple #[]) (st.putm l)) := by
  obtain ⟨o, h⟩ := h
  have := write_m h hm l hlen
  rw [putm_off] at this
  refine this.mono ?_
  rintro e w' ⟨he, ⟨o2, hr⟩, hb⟩
  refine ⟨he, ⟨o2, ?_⟩, hb⟩
  have e2 : (st.putm l).orig = st.orig := by unfold St.putm; split; · rfl
                                             split <;> rfl
  rw [← e2] at hr
  exact hr
theorem byte_o {w : World} {b : Nat} {st : St} (h : RstO w b st) (hm : 0 ≤ st.max) (c : UInt8) (hlen : st.out.length + 1 ≤ 140737488355328) :
    Calls Tryd.prog 95 #[.pointer (some ⟨b, 0, none⟩), .int .u8 (c.toNat : Int)] w (Done b w (.tuple #[]) (st.putm [c])) := by
  obtain ⟨o, h⟩ := h
  have := byte_m h hm c hlen
  rw [putm_off] at this
  refine this.mono ?_
  rintro e w' ⟨he, ⟨o2, hr⟩, hb⟩
  refine ⟨he, ⟨o2, ?_⟩, hb⟩
  have e2 : (st.putm [c]).orig = st.orig := by unfold St.putm; split; · rfl
                                               split <;> rfl
  rw [← e2] at hr
  exact hr
theorem adv_o {w : World} {b : Nat} {st : St} {c : UInt8} {l : List UInt8} (h : RstO w b st) (hc : st.str = c :: l) (hl : st.str.length ≤ 9223372036854775807) :
    Calls Tryd.prog 81 #[.pointer (some ⟨b, 0, none⟩), .int .i64 1] w (Done b w (.tuple #[]) (st.on l)) := by
  obtain ⟨o, h⟩ := h
  have := advance_one h hc hl
  exact this
theorem ident_o {w : World} {b : Nat} {st : St} (h : RstO w b st) (hu : noUIn st.str) (hl : st.str.length ≤ 9223372036854775807) :
    Calls Tryd.prog 131 #[.pointer (some ⟨b, 0, none⟩)] w (ReadIdent b w st (identAll st.str)) := by
  obtain ⟨o, h⟩ := h
  have := identifier_any h hu hl
  exact this
end Go.Proofs.YtokjbdofpdncdaaDoor
