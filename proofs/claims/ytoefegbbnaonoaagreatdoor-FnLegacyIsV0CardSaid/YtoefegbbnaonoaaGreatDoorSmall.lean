/- Parts of paths out of lists: the laws' own helpers. -/
import Derived.Test.YtoefegbbnaonoaaGreatDoorCounted
import Derived.Test.YtoefegbbnaonoaaGreatDoorSymb
import Derived.Deep.Matrix
import Derived.Laws.AppendOwn
namespace Go.Proofs.YtoefegbbnaonoaaGreatDoor
open Go.RowKit Go.Lib Go.WideShapes Go.ChangeShapes
set_option linter.unusedVariables false
set_option maxRecDepth 100000
attribute [local go_sem] bs_size

/-- A list of rows of bytes that came in. -/
def NamesAt (w : World) (A : Option Addr) (n : Nat) (ls : List (List UInt8)) : Prop :=
  ls.length = n ∧ (ls = [] ∨ ∃ b off, A = some ⟨b, off, none⟩ ∧ b < w.heap.size ∧ ∀ i (h : i < ls.length), ∃ Ar Cr, w.cell? ⟨b, off + i, none⟩ = some (.slice Ar ls[i].length Cr) ∧ Bytes w Ar ls[i].length ls[i] ∧ ls[i].length ≤ Cr ∧ Cr ≤ maxLen)
theorem NamesAt.below {w w' : World} {A : Option Addr} {n : Nat} {ls : List (List UInt8)} (h : NamesAt w A n ls) (hb : Below w.heap.size w w') : NamesAt w' A n ls := by
  refine ⟨h.1, ?_⟩
  rcases h.2 with h | ⟨b, off, hA, hlt, hc⟩
  · exact .inl h
  · refine .inr ⟨b, off, hA, Nat.lt_of_lt_of_le hlt hb.size, fun i hi => ?_⟩
    obtain ⟨Ar, Cr, h1, h2, h3⟩ := hc i hi
    exact ⟨Ar, Cr, (hb.cell (p := ⟨b, off + i, none⟩) hlt).trans h1, h2.below hb, h3⟩
/-- A list of numbers that came in. -/
def IntsAt (w : World) (A : Option Addr) (n : Nat) (zs : List Int) : Prop :=
  zs.length = n ∧ (∀ z ∈ zs, (Lit.int .i64 z).wf = true) ∧ (zs = [] ∨ ∃ b off, A = some ⟨b, off, none⟩ ∧ b < w.heap.size ∧ ∀ i (h : i < zs.length), w.cell? ⟨b, off + i, none⟩ = some (.int .i64 zs[i]))
theorem IntsAt.below {w w' : World} {A : Option Addr} {n : Nat} {zs : List Int} (h : IntsAt w A n zs) (hb : Below w.heap.size w w') : IntsAt w' A n zs := by
  refine ⟨h.1, h.2.1, ?_⟩
  rcases h.2.2 with h | ⟨b, off, hA, hlt, hc⟩
  · exact .inl h
  · exact .inr ⟨b, off, hA, Nat.lt_of_lt_of_le hlt hb.size, fun i hi => (hb.cell (p := ⟨b, off + i, none⟩) hlt).trans (hc i hi)⟩
theorem spot_none {w : World} {x : Addr} {v : Value} (h : w.cell? x = some v) : ∃ b off, x = ⟨b, off, none⟩ ∧ b < w.heap.size := by
  have hlt := World.block_lt_of_cell? w _ h
  obtain ⟨b, off, sp⟩ := x
  cases sp with
  | none => exact ⟨b, off, rfl, hlt⟩
  | some k =>
    simp only [World.cell?] at h
    split at h <;> simp at h
theorem add_none (b off i : Nat) : (⟨b, off, none⟩ : Addr).add i = ⟨b, off + i, none⟩ := by unfold Addr.add; split <;> simp_all

theorem ints_open {H : Type} {enc : TypeId × Value → H} {w : World} {held : Bool} {A : Option Addr} {n c : Nat} {d : DataW H} {p : List MemPlace}
    (h : DataW.Trod enc Tryz.prog w 0 (fun _ => true) held 47 (.slice A n c) d p) : ∃ zs, IntsAt w A n zs ∧ n ≤ maxLen ∧ n ≤ c := by
  obtain ⟨fuel, hf⟩ := h
  rcases open_ints Tryz.underlying47 Tryz.underlying3 (by kernel_rfl) hf with ⟨hcs, _⟩ | ⟨x, l, cp, zs, hcs, _, hl, hm, hz, _, hcell, hwz⟩
  · simp [Value.cells] at hcs
    obtain ⟨rfl, rfl, rfl⟩ := hcs
    exact ⟨[], ⟨rfl, by simp, .inl rfl⟩, by simp [maxLen], Nat.le_refl _⟩
  · simp [Value.cells] at hcs
    obtain ⟨rfl, rfl, rfl⟩ := hcs
    simp only [if_true] at hz
    refine ⟨zs.take n, ⟨by simp; omega, fun z hzm => hwz z (List.mem_of_mem_take hzm), ?_⟩, by omega, hl⟩
    by_cases h0 : n = 0
    · subst h0; exact .inl (by simp)
    · obtain ⟨b, off, e, hlt⟩ := spot_none (x := x) (hcell 0 (by omega))
      subst e
      refine .inr ⟨b, off, rfl, hlt, fun i hi => ?_⟩
      simp only [List.length_take] at hi
      have h1 := hcell i (by omega)
      rw [add_none] at h1
      rw [h1]
      simp [List.getD, List.getElem?_eq_getElem (show i < zs.length by omega)]
theorem names_open {H : Type} {enc : TypeId × Value → H} {w : World} {held : Bool} {A : Option Addr} {n c : Nat} {d : DataW H} {p : List MemPlace}
    (h : DataW.Trod enc Tryz.prog w 0 (fun _ => true) held 23 (.slice A n c) d p) : ∃ ls, NamesAt w A n ls ∧ n ≤ maxLen ∧ n ≤ c := by
  obtain ⟨fuel, hf⟩ := h
  rcases Go.Deep.open_int_rows Tryz.underlying23 Tryz.underlying22 Tryz.underlying5 (by kernel_rfl) (by kernel_rfl) hf with ⟨hcs, _⟩ | ⟨x, l, cp, Ar, L, C, Z, hcs, _, hl, hm, _, hrow⟩
  · simp [Value.cells] at hcs
    obtain ⟨rfl, rfl, rfl⟩ := hcs
    exact ⟨[], ⟨rfl, .inl rfl⟩, by simp [maxLen], Nat.le_refl _⟩
  · simp [Value.cells] at hcs
    obtain ⟨rfl, rfl, rfl⟩ := hcs
    have each : ∀ r, r < n → ∃ y : List UInt8, Bytes w (Ar r) (L r) y := by
      intro r hr
      obtain ⟨_, h1, h2, h3, h4, h5, h6⟩ := hrow r (by omega)
      refine bytes_of_row (cap := C r) (zs := Z r) ?_
      cases hA : Ar r with
      | none =>
        have := h5 hA
        exact .inl ⟨rfl, by omega, this, List.eq_nil_of_length_eq_zero (by omega)⟩
      | some a' => exact .inr ⟨a', rfl, h1, h2, h3, fun i hi => (h6 a' hA).2 i (by omega), h4⟩
    obtain ⟨y, hy⟩ := Go.Deep.choose_lt each
    refine ⟨(List.range n).map y, ⟨by simp, ?_⟩, by omega, hl⟩
    by_cases h0 : n = 0
    · subst h0; exact .inl (by simp)
    · obtain ⟨b, off, e, hlt⟩ := spot_none (x := x) (hrow 0 (by omega)).1
      subst e
      refine .inr ⟨b, off, rfl, hlt, fun i hi => ?_⟩
      simp only [List.length_map, List.length_range] at hi
      obtain ⟨h0, h1, h2, _⟩ := hrow i (by omega)
      rw [add_none] at h0
      have hb := hy i hi
      have hlen : ((List.range n).map y)[i]'(by simpa using hi) = y i := by simp
      rw [hlen, hb.1]
      exact ⟨Ar i, C i, h0, hb, h1, h2⟩

def fitsN (ls : List (List UInt8)) : Bool := decide (ls.length ≤ 2147483647) && ls.all fun l => decide (l.length ≤ 2147483647)
theorem fitsN_big {ls : List (List UInt8)} (h : 2147483647 < ls.length) : fitsN ls = false := by
  unfold fitsN; rw [decide_eq_false (by omega)]; rfl
theorem fitsN_row {ls : List (List UInt8)} {k : Nat} (hk : k < ls.length) (h : 2147483647 < ls[k].length) : fitsN ls = false := by
  unfold fitsN
  rw [Bool.and_eq_false_iff]
  refine .inr (List.all_eq_false.2 ⟨ls[k], List.getElem_mem hk, ?_⟩)
  simp; omega
theorem fitsN_all {ls : List (List UInt8)} (h : ¬ 2147483647 < ls.length) (hr : ∀ i (hi : i < ls.length), i < ls.length → ls[i].length ≤ 2147483647) : fitsN ls = true := by
  unfold fitsN
  rw [Bool.and_eq_true]
  refine ⟨decide_eq_true (by omega), List.all_eq_true.2 fun l hl => ?_⟩
  obtain ⟨i, hi, rfl⟩ := List.mem_iff_getElem.1 hl
  exact decide_eq_true (hr i hi hi)
theorem ret_bool {a b : Bool} (h : a = b) : Ending.returned (.bool a) = .returned (.bool b) := by rw [h]
attribute [local irreducible] Bytes in
theorem zzFits1_any {w : World} {A : Option Addr} {n cap : Nat} {ls : List (List UInt8)} (h : NamesAt w A n ls) (hn : n ≤ maxLen) :
    Calls Tryz.prog 9 #[.slice A n cap] w fun e w' => e = .returned (.bool (fitsN ls)) ∧ w = w' := by
  obtain ⟨rfl, h⟩ := h
  unfold maxLen at hn
  by_cases hz : 2147483647 < ls.length
  · clear h
    have hf := Lib.hid (fitsN_big hz)
    go_enter Tryz.func9, Tryz.ntmps9
    go_wp2_with fail
    go_ret
    exact ⟨ret_bool hf.out.symm, rfl⟩
  · have H := Lib.hid h
    have hall := Lib.hid (fitsN_all hz)
    clear h
    go_enter Tryz.func9, Tryz.ntmps9
    go_wp2_with fail
    go_loopg [10] ls.length (fun g v wr => ∃ k : Nat, v = .int .i64 (k : Int) ∧ k + g = ls.length ∧ wr = w ∧ Hid (∀ i (hi : i < ls.length), i < k → ls[i].length ≤ 2147483647))
    case atStart => exact ⟨0, rfl, by omega, rfl, Lib.hid (fun i _ h => by omega)⟩
    case round =>
      obtain ⟨k, rfl, hg, rfl, hr⟩ := hrel
      by_cases hk : k < ls.length
      · rcases H.out with h | ⟨b, off, rfl, hlt, hc⟩
        · rw [h] at hk; cases hk
        · obtain ⟨Ar, Cr, ck, -, -⟩ := hc k hk
          clear hc
          have hrow := Lib.hid (fun h => fitsN_row hk h)
          obtain ⟨m, hm⟩ : ∃ m, ls[k].length = m := ⟨_, rfl⟩
          rw [hm] at ck hrow
          replace hm := Lib.hid hm
          by_cases hb : 2147483647 < m
          · go_wp2_with fail
            go_ret
            exact ⟨ret_bool (hrow.out hb).symm, rfl⟩
          · go_wp2_with fail
            go_roundg (ls.length - (k + 1))
            case measure => omega
            case rel =>
              refine ⟨k + 1, by go_num, by omega, rfl, Lib.hid (fun i hi hik => ?_)⟩
              by_cases h2 : i = k
              · subst h2; rw [hm.out]; omega
              · exact hr.out i hi (by omega)
      · have hk2 : k = ls.length := by omega
        subst hk2
        go_wp2_with fail
        go_ret
        exact ⟨ret_bool (hall.out hr.out).symm, rfl⟩

def spaceOf (l : List UInt8) (i : Nat) (f : UInt8) : UInt8 := if l = [] then f + 2 else f + l.getD (i % l.length) 0 % 26
theorem ret_u8 {a : Int} {c : UInt8} (h : a = (c.toNat : Int)) : Ending.returned (.int .u8 a) = .returned (.int .u8 (c.toNat : Int)) := by rw [h]
theorem idSpace_any {w : World} {A : Option Addr} {n cap : Nat} {l : List UInt8} (h : Bytes w A n l) (hn : n ≤ maxLen) (i : Nat) (hi : i < 1000) (f : UInt8) (hf : f.toNat ≤ 97) :
    Calls Tryz.prog 24 #[.slice A n cap, .int .i64 (i : Int), .int .u8 (f.toNat : Int)] w fun e w' => e = .returned (.int .u8 ((spaceOf l i f).toNat : Int)) ∧ w = w' := by
  obtain ⟨rfl, h⟩ := h
  unfold maxLen at hn
  by_cases hz : l = []
  · subst hz
    clear h
    go_enter Tryz.func24, Tryz.ntmps24
    go_wp2_with fail
    go_ret
    refine ⟨ret_u8 ?_, rfl⟩
    unfold spaceOf
    rw [if_pos rfl, UInt8.toNat_add]
    try simp only [IntKind.wrap_u8]
    rw [show (2 : UInt8).toNat = 2 from rfl]
    omega
  · rcases h with h | ⟨b, off, rfl, hlt, hc⟩
    · exact absurd h hz
    · have hp : 0 < l.length := List.length_pos_iff.2 hz
      have hne : ((l.length : Int) == 0) = false := by simpa using (by omega : ¬ (l.length : Int) = 0)
      have hm : i % l.length < l.length := Nat.mod_lt _ hp
      have ck := hc (i % l.length) hm
      have ht : (i : Int).tmod (l.length : Int) = ((i % l.length : Nat) : Int) := (Int.ofNat_tmod i l.length).symm
      have hsp : spaceOf l i f = f + l[i % l.length] % 26 := by
        unfold spaceOf
        rw [if_neg hz]
        simp [List.getD, List.getElem?_eq_getElem hm]
      generalize l[i % l.length] = c at ck hsp
      generalize i % l.length = j at ck ht hm
      have hc26 : (c.toNat : Int).tmod 26 = ((c.toNat % 26 : Nat) : Int) := (Int.ofNat_tmod c.toNat 26).symm
      clear hc hz
      go_enter Tryz.func24, Tryz.ntmps24
      go_wp2_with fail
      go_ret
      refine ⟨ret_u8 ?_, rfl⟩
      rw [hsp, UInt8.toNat_add, UInt8.toNat_mod]
      try simp only [IntKind.wrap_u8]
      rw [show (26 : UInt8).toNat = 26 from rfl]
      have := c.toNat_lt
      omega

def disAt (zs : List Int) (i : Nat) : Nat := if zs = [] then 0 else (zs.getD (i % zs.length) 0 % 1099511627776).toNat
theorem ret_u64 {a : Int} {c : Nat} (h : a = (c : Int)) : Ending.returned (.int .u64 a) = .returned (.int .u64 (c : Int)) := by rw [h]
theorem idDis_any {w : World} {A : Option Addr} {n cap : Nat} {zs : List Int} (h : IntsAt w A n zs) (hn : n ≤ maxLen) (i : Nat) (hi : i < 1000) :
    Calls Tryz.prog 25 #[.slice A n cap, .int .i64 (i : Int)] w fun e w' => e = .returned (.int .u64 (disAt zs i : Int)) ∧ w = w' := by
  obtain ⟨rfl, hwf, h⟩ := h
  unfold maxLen at hn
  by_cases hz : zs = []
  · subst hz
    clear h
    go_enter Tryz.func25, Tryz.ntmps25
    go_wp2_with fail
    go_ret
    exact ⟨rfl, rfl⟩
  · rcases h with h | ⟨b, off, rfl, hlt, hc⟩
    · exact absurd h hz
    · have hp : 0 < zs.length := List.length_pos_iff.2 hz
      have hne : ((zs.length : Int) == 0) = false := by simpa using (by omega : ¬ (zs.length : Int) = 0)
      have hm : i % zs.length < zs.length := Nat.mod_lt _ hp
      have ck := hc (i % zs.length) hm
      have ht : (i : Int).tmod (zs.length : Int) = ((i % zs.length : Nat) : Int) := (Int.ofNat_tmod i zs.length).symm
      have hw := hwf _ (List.getElem_mem hm)
      have hd : (disAt zs i : Int) = zs[i % zs.length] % 1099511627776 := by
        unfold disAt
        rw [if_neg hz]
        simp only [List.getD, List.getElem?_eq_getElem hm, Option.getD_some]
        omega
      generalize zs[i % zs.length] = z at ck hd hw
      generalize i % zs.length = j at ck ht hm
      have HA := Lib.hid (idAt_any hw (n := 1099511627776) (by decide) (by unfold big62; decide) w)
      clear hc hz hwf hw
      go_enter Tryz.func25, Tryz.ntmps25
      go_wp2_with (go_at_call 21; refine (HA.out).mono ?_; rintro e w2 ⟨rfl, rfl⟩)
      go_ret
      refine ⟨ret_u64 ?_, rfl⟩
      rw [hd]
      try simp only [IntKind.wrap_u64]
      try omega
end Go.Proofs.YtoefegbbnaonoaaGreatDoor
