/- FnPunycodeCut: the walk. -/
import Derived.Test.YteeodkmhelmedaaPunyD
import Derived.Test.YteeodkmhelmedaaGatePuny
import Derived.Laws.AppendOwnNone
namespace Go.Proofs.Yteeodkmhelmedaa
open Go.RowKit Go.Lib
set_option linter.unusedVariables false
set_option maxRecDepth 100000
attribute [local go_sem] bs_size bs_toList

theorem occ_one (s : List UInt8) (c : UInt8) (i : Nat) : occAt s [c] i = true ↔ s[i]? = some c := by
  unfold occAt
  cases h : s.drop i with
  | nil =>
    have : s[i]? = none := by have := congrArg (fun l => l[0]?) h; simpa using this
    rw [this]
    simp [List.isPrefixOf]
  | cons d t =>
    have : s[i]? = some d := by have := congrArg (fun l => l[0]?) h; simpa using this
    rw [this]
    have e : [c].isPrefixOf (d :: t) = (c == d) := by
      show ((c == d) && List.isPrefixOf [] t) = (c == d)
      cases t <;> simp [List.isPrefixOf]
    rw [e, beq_iff_eq]
    constructor
    · rintro rfl; rfl
    · intro h; exact (Option.some.inj h).symm
/-- The last place of a byte that does not stand behind it. -/
theorem last_at (a d : List UInt8) (c : UInt8) (hd : ∀ x ∈ d, x ≠ c) : Lib.lastIndex (a ++ c :: d) [c] = (a.length : Int) := by
  unfold Lib.lastIndex
  rw [if_pos (by simp; omega)]
  rcases Lib.lastOcc_spec (a ++ c :: d) [c] ((a ++ c :: d).length - [c].length + 1) with ⟨_, h⟩ | ⟨i, hi, he, ho, hmax⟩
  · have := h a.length (by simp; omega)
    have h2 := (occ_one (a ++ c :: d) c a.length).2 (by simp)
    rw [h2] at this
    cases this
  · rw [he]
    have h1 : ¬ a.length < i := fun hlt => by
      have h2 := (occ_one _ _ _).1 ho
      obtain ⟨j, rfl⟩ : ∃ j, i = a.length + (j + 1) := ⟨i - a.length - 1, by omega⟩
      rw [List.getElem?_append_right (by omega), show a.length + (j + 1) - a.length = j + 1 by omega, List.getElem?_cons_succ] at h2
      exact hd c (List.mem_of_getElem? h2) rfl
    have h2 : ¬ i < a.length := fun hlt => by
      have := hmax a.length hlt (by simp; omega)
      have h2 := (occ_one (a ++ c :: d) c a.length).2 (by simp)
      rw [h2] at this
      cases this
    have : i = a.length := by omega
    rw [this]
theorem last_no (d : List UInt8) (c : UInt8) (hd : ∀ x ∈ d, x ≠ c) : Lib.lastIndex d [c] = -1 := by
  unfold Lib.lastIndex
  split
  · rcases Lib.lastOcc_spec d [c] (d.length - [c].length + 1) with ⟨h, _⟩ | ⟨i, hi, he, ho, hmax⟩
    · exact h
    · exact absurd rfl (hd c (List.mem_of_getElem? ((occ_one _ _ _).1 ho)))
  · rfl
theorem low_not (c : UInt8) (h : IsLow c) : c ≠ 95 := by
  rintro rfl
  rcases h with h | h <;> revert h <;> decide
theorem plain_ascii (c : UInt8) : (plainAt 63 c).toNat < 128 := by
  have h : ((List.range 256).all fun n => decide ((plainAt 63 (UInt8.ofNat n)).toNat < 128)) = true := by kernel_rfl
  have := List.all_eq_true.1 h c.toNat (List.mem_range.2 c.toNat_lt)
  simpa using this
/-- The name that is told. -/
theorem door_const (w : World) : Calls Try.prog 9 #[.string ⟨#[103, 100, 101, 108, 95, 53, 113, 97]⟩, .string ⟨#[103, 195, 182, 100, 101, 108]⟩] w fun e w' => e = .returned (.bool true) ∧ Below w.heap.size w w' := by
  have h1 : PunyIn [103, 100, 101, 108, 95, 53, 113, 97] [103, 100, 101, 108] [53, 113, 97] := .inl ⟨last_at [103, 100, 101, 108] [53, 113, 97] 95 (by decide), rfl, by decide⟩
  have h2 : pdec ([53, 113, 97] : List UInt8).length [53, 113, 97] 128 0 72 (([103, 100, 101, 108] : List UInt8).map UInt8.toNat) = some [103, 246, 100, 101, 108] := by
    have hb : pbias (pdelta0 841 5 true) 0 = 0 := by
      rw [pbias_small (by decide)]
      decide
    have hp : pread [53, 113, 97] 0 1 36 72 = some (591, []) := by decide
    rw [show ([53, 113, 97] : List UInt8).length = 2 + 1 from rfl, pdec, hp]
    simp only
    rw [if_pos (by decide)]
    rfl
  have h3 : pText [103, 246, 100, 101, 108] = ⟨#[103, 195, 182, 100, 101, 108]⟩ := by kernel_rfl
  have := doorPuny_yes (by decide) h1 h2 w
  rw [h3] at this
  exact this

theorem plainOf_some {l : List UInt8} (h : l ≠ []) : plainOf l = l.map (plainAt 63) := if_neg h

theorem bytes_len {w : World} {A : Option Addr} {n : Nat} {l : List UInt8} (h : Bytes w A n l) : (l.map fun x => Value.int .u8 (x.toNat : Int)).length = n * 1 := by simp [h.1]
theorem bytes_one (l : List UInt8) : ∀ u ∈ (l.map fun x => Value.int .u8 (x.toNat : Int)), u.oneCell' = true := by
  intro u hu
  obtain ⟨c, _, rfl⟩ := List.mem_map.1 hu
  rfl
theorem bytes_news {w : World} {ad : Addr} {n : Nat} {l : List UInt8} (h : Bytes w (some ad) n l) : ∀ W, Below w.heap.size w W → ∀ (j : Nat) (u : Value), (l.map fun x => Value.int .u8 (x.toNat : Int))[j]? = some u → W.cell? (ad.add j) = some u := by
  intro W hW j u hj
  have hlt : j < l.length := by
    rcases Nat.lt_or_ge j l.length with h | h
    · exact h
    · rw [List.getElem?_eq_none (by simpa using h)] at hj; cases hj
  rcases h.2 with h0 | ⟨b, off, e, hb, hc⟩
  · rw [h0] at hlt; cases hlt
  · obtain rfl := Option.some.inj e
    rw [add_none, (hW.cell (p := ⟨b, off + j, none⟩) hb), hc j hlt]
    simp [hlt] at hj
    rw [← hj]
theorem bytes_own1 {w : World} {base n : Nat} {v : Value} {l : List UInt8} (h : w.ownsRow base 5 1 v (1 + n) (#[Value.int .u8 1].toList ++ (l.map fun x => Value.int .u8 (x.toNat : Int)))) (hl : l.length = n) :
    ∃ g cap, v = .slice (some ⟨g, 0, none⟩) (1 + n) cap ∧ Bytes w (some ⟨g, 0, none⟩) (1 + n) (1 :: l) ∧ 1 + n ≤ cap := by
  have hc := fun g hg => World.ownsRow.cells h (g := g) hg
  rcases h.2 with ⟨_, h⟩ | ⟨g, cap, cur, rfl, hb, hg, h1, h2, _⟩
  · omega
  · refine ⟨g, cap, rfl, ⟨by simp [hl]; omega, .inr ⟨g, 0, rfl, (Array.getElem?_eq_some_iff.1 hg).1, fun i hi => ?_⟩⟩, h1⟩
    have k := hc g rfl i (.int .u8 ((1 :: l)[i].toNat : Int)) (by
      cases i with
      | zero => rfl
      | succ i => simp at hi ⊢; exact ⟨_, List.getElem?_eq_getElem hi, rfl⟩)
    rwa [add_none] at k

set_option maxHeartbeats 4000000 in
theorem punyCut_walk (w : World) (A1 : Option Addr) (n1 c1 : Nat) (l1 : List UInt8) (h1 : Bytes w A1 n1 l1) (k1 : n1 ≤ maxLen ∧ n1 ≤ c1 ∧ (A1 = none → n1 = 0 ∧ c1 = 0))
    (A2 : Option Addr) (n2 c2 : Nat) (l2 : List UInt8) (h2 : Bytes w A2 n2 l2) (k2 : n2 ≤ maxLen ∧ n2 ≤ c2 ∧ (A2 = none → n2 = 0 ∧ c2 = 0)) :
    Calls Try.prog 3 #[.slice A1 n1 c1, .slice A2 n2 c2] w fun e w' => e = .returned (.bool true) ∧ Below w.heap.size w w' := by
  by_cases hz1 : 2147483647 < n1
  · have hz' : decide ((2147483647 : Int) < (n1 : Int)) = true := decide_eq_true (by omega)
    clear hz1
    go_enter Try.func3, Try.ntmps3
    go_wp2_with fail
    go_ret
    exact ⟨rfl, Below.refl _ _⟩
  have hz1' : decide ((2147483647 : Int) < (n1 : Int)) = false := decide_eq_false (by omega)
  by_cases hz2 : 2147483647 < n2
  · have hz' : decide ((2147483647 : Int) < (n2 : Int)) = true := decide_eq_true (by omega)
    clear hz1 hz2
    go_enter Try.func3, Try.ntmps3
    go_wp2_with fail
    go_ret
    exact ⟨rfl, Below.refl _ _⟩
  have hz2' : decide ((2147483647 : Int) < (n2 : Int)) = false := decide_eq_false (by omega)
  obtain ⟨i0, hi0, hq0, hq1, hq2⟩ := info_parts (show (Try.prog.info? 5).map (fun i => (i.zero, i.size, i.bytes)) = some (some (.int .u8 0), 1, 1) by kernel_rfl)
  obtain ⟨X, hX⟩ : ∃ X, plainOf ((1 :: l1).take (min (1 + n1) 1000)) = X := ⟨_, rfl⟩
  obtain ⟨Y, hY⟩ : ∃ Y, (l2.take (min n2 1000)).map lowAt = Y := ⟨_, rfl⟩
  have hl1 := h1.1
  have hXe : X = ((1 :: l1).take (min (1 + n1) 1000)).map (plainAt 63) := by
    rw [← hX]
    exact plainOf_some (by intro e; have := congrArg List.length e; simp at this <;> omega)
  have hXl : X.length ≤ 1000 ∧ 1 ≤ X.length := by rw [hXe]; simp; omega
  have hXa : ∀ c ∈ X, c.toNat < 128 := by
    rw [hXe]
    intro c hc
    obtain ⟨e, _, rfl⟩ := List.mem_map.1 hc
    exact plain_ascii e
  have hYl : Y.length ≤ 1000 := by rw [← hY]; simp; omega
  have hYa : ∀ c ∈ Y, IsLow c := by
    rw [← hY]
    intro c hc
    obtain ⟨e, _, rfl⟩ := List.mem_map.1 hc
    exact lowAt_low e
  obtain ⟨r, hr, hno⟩ := breaks_eq Y.length Y (X.length + 1) 0 72 200000000000000 (Nat.le_refl _) hYa hYl (by omega) (by omega) (by omega) (by omega) (by omega)
  have hDB : PDoorBreaksOff.spec_DoorBreaksOff.f 200000000000000 (bs X) (bs Y) = some r := by
    unfold PDoorBreaksOff.spec_DoorBreaksOff.f
    rw [bs_size, w64 (x := (X.length : Int) + 1) (by omega) (by omega)]
    simpa using hr
  have HDB := Lib.hid (fun W : World => PDoorBreaksOff.spec_DoorBreaksOff.calls _ _ _ _ W hDB)
  have HIP := Lib.hid (fun (W : World) (hb : Below w.heap.size w W) => idPuny_any (c := c2) (h2.below hb) k2.2.1 k2.1)
  rw [hY] at HIP
  have HPl := Lib.hid (fun (W : World) (A : Option Addr) (cap : Nat) (h : Bytes W A (min (1 + n1) 1000) ((1 :: l1).take (min (1 + n1) 1000))) => anPlain_any (cap := cap) h (by omega))
  rw [hX] at HPl
  have HC := Lib.hid (fun (W : World) (A : Option Addr) (cap : Nat) (h : 1 + n1 ≤ cap) => idCut_any (w := W) (A := A) h)
  have HDoor := Lib.hid (fun W : World => door_const W)
  have hin : PunyIn (X ++ 95 :: Y) X Y := .inl ⟨last_at X Y 95 (fun x hx => low_not x (hYa x hx)), rfl, hXa⟩
  have hlen : (X ++ 95 :: Y).length ≤ 1000000 := by simp; omega
  have HNo := Lib.hid (fun (h : r = true) (W : World) => (puny_impl hlen hin (hno h 128 (X.map UInt8.toNat) (by simp)) W).mono fun e w' h => (show e = .returned (.tuple #[.string ⟨#[]⟩, .bool false]) ∧ Below W.heap.size W w' from h))
  have a1 : ∀ W, (Op.stringOp .add (bs X) ⟨#[95]⟩).run Try.prog W = .ok (.string (bs (X ++ [95]))) W := add_bs X [95] (by simp; omega)
  have a2 : ∀ W, (Op.stringOp .add (bs (X ++ [95])) (bs Y)).run Try.prog W = .ok (.string (bs (X ++ 95 :: Y))) W := fun W => by rw [add_bs (X ++ [95]) Y (by simp; omega) W]; simp
  have H1 := Lib.hid h1
  clear hX hY hXe hXa hYa hr hno hDB hin hlen h1 h2
  cases A1 with
  | none =>
    obtain ⟨rfl, rfl⟩ := k1.2.2 rfl
    obtain rfl : l1 = [] := List.eq_nil_of_length_eq_zero hl1
    have hcap : 1 + 0 ≤ 1 := Nat.le_refl _
    have hbyW : Bytes (w.alloc (.cells #[.int .u8 1] 5)) (some ⟨w.heap.size, 0, none⟩) 1 [1] := ⟨rfl, .inr ⟨_, 0, rfl, by simp, fun i hi => by
      have : i = 0 := by simp at hi; omega
      subst this
      exact (Blk.new w 5 #[.int .u8 1]).cell 0⟩⟩
    have hby := Lib.hid hbyW
    have hbw := (Below.refl w.heap.size w).alloc (Nat.le_refl _) (.cells #[.int .u8 1] 5)
    have hown0 := World.ownsRow_lit (base := w.heap.size) (e := 5) (size := 1) w #[.int .u8 1] 1 (Nat.le_refl _) (by decide) rfl
    clear hbyW k1 hl1 H1
    cases r with
    | true =>
      have HNo2 := Lib.hid (HNo.out rfl)
      clear HNo
      go_enter Try.func3, Try.ntmps3
      go_wp2_with (first
        | (at_builtin; refine wpList_append_own_none rfl _ _ 22 rfl w.heap.size 5 i0 1 Try.underlying22 hi0 _ 1 _ rfl hown0 rfl ?_)
        | (go_at_call 6; refine (HC.out _ _ 1 hcap).mono ?_; rintro e w4 ⟨rfl, rfl⟩)
        | (go_at_call 5; refine (HPl.out _ _ _ hby.out).mono ?_; rintro e w5 ⟨rfl, hb5⟩; replace hb5 := hbw.trans (hb5.mono hbw.size))
        | (go_at_call 7; refine (HIP.out _ hb5).mono ?_; rintro e w6 ⟨rfl, rfl⟩)
        | (go_at_call 8; refine (HDB.out _).mono ?_; rintro e w7 ⟨rfl, hb7⟩; replace hb7 := hb5.trans (hb7.mono hb5.size))
        | (go_at_call 10; refine (HNo2.out _).mono ?_; rintro e w8 ⟨rfl, hb8⟩; replace hb8 := hb7.trans (hb8.mono hb7.size))
        | (go_at_call 9; refine (HDoor.out _).mono ?_; rintro e w9 ⟨rfl, hb9⟩))
      go_ret
      exact ⟨rfl, hb8.trans (hb9.mono hb8.size)⟩
    | false =>
      clear HNo
      go_enter Try.func3, Try.ntmps3
      go_wp2_with (first
        | (at_builtin; refine wpList_append_own_none rfl _ _ 22 rfl w.heap.size 5 i0 1 Try.underlying22 hi0 _ 1 _ rfl hown0 rfl ?_)
        | (go_at_call 6; refine (HC.out _ _ 1 hcap).mono ?_; rintro e w4 ⟨rfl, rfl⟩)
        | (go_at_call 5; refine (HPl.out _ _ _ hby.out).mono ?_; rintro e w5 ⟨rfl, hb5⟩; replace hb5 := hbw.trans (hb5.mono hbw.size))
        | (go_at_call 7; refine (HIP.out _ hb5).mono ?_; rintro e w6 ⟨rfl, rfl⟩)
        | (go_at_call 8; refine (HDB.out _).mono ?_; rintro e w7 ⟨rfl, hb7⟩; replace hb7 := hb5.trans (hb7.mono hb5.size))
        | (go_at_call 9; refine (HDoor.out _).mono ?_; rintro e w9 ⟨rfl, hb9⟩))
      go_ret
      exact ⟨rfl, hb7.trans (hb9.mono hb7.size)⟩
  | some ad =>
    have HA1 := Lib.hid (bytes_news H1.out)
    have HN := Lib.hid (bytes_len H1.out)
    clear hl1
    cases r with
    | true =>
      have HNo2 := Lib.hid (HNo.out rfl)
      clear HNo
      go_enter Try.func3, Try.ntmps3
      go_wp2_with (at_builtin; refine wpList_append_own _ rfl _ _ 22 rfl w.heap.size 5 i0 (.int .u8 0) 1 1 Try.underlying22 hi0 hq0 hq1 hq2 rfl (by decide) _ _ _ rfl (World.ownsRow_lit (base := w.heap.size) (e := 5) (size := 1) w #[.int .u8 1] 1 (Nat.le_refl _) (by decide) rfl) ad n1 c1 (l1.map fun x => Value.int .u8 (x.toNat : Int)) rfl HN.out (HA1.out _ ((Below.refl w.heap.size w).alloc (Nat.le_refl _) _)) (bytes_one l1) ?c3 ?c4 ?c5 ?_)
      case c3 => unfold maxLen at *; omega
      case c4 => unfold maxLen at *; omega
      case c5 => simp
      intro v' w3 hown hgrow _
      have hbw : Below w.heap.size w w3 := ((Below.refl w.heap.size w).alloc (Nat.le_refl _) _).grown hgrow (by simp) (fun k hk => by simp [Value.ownBlock] at hk; omega)
      obtain ⟨g, cap, rfl, hby0, hcap⟩ := bytes_own1 hown H1.out.1
      replace hby := Lib.hid (Bytes.take hby0 (min (1 + n1) 1000) (by omega))
      clear hown hgrow hby0
      go_wp2_with (first
        | (go_at_call 6; refine (HC.out _ _ _ hcap).mono ?_; rintro e w4 ⟨rfl, rfl⟩)
        | (go_at_call 5; refine (HPl.out _ _ _ hby.out).mono ?_; rintro e w5 ⟨rfl, hb5⟩; replace hb5 := hbw.trans (hb5.mono hbw.size))
        | (go_at_call 7; refine (HIP.out _ hb5).mono ?_; rintro e w6 ⟨rfl, rfl⟩)
        | (go_at_call 8; refine (HDB.out _).mono ?_; rintro e w7 ⟨rfl, hb7⟩; replace hb7 := hb5.trans (hb7.mono hb5.size))
        | (go_at_call 10; refine (HNo2.out _).mono ?_; rintro e w8 ⟨rfl, hb8⟩; replace hb8 := hb7.trans (hb8.mono hb7.size))
        | (go_at_call 9; refine (HDoor.out _).mono ?_; rintro e w9 ⟨rfl, hb9⟩))
      go_ret
      exact ⟨rfl, hb8.trans (hb9.mono hb8.size)⟩
    | false =>
      clear HNo
      go_enter Try.func3, Try.ntmps3
      go_wp2_with (at_builtin; refine wpList_append_own _ rfl _ _ 22 rfl w.heap.size 5 i0 (.int .u8 0) 1 1 Try.underlying22 hi0 hq0 hq1 hq2 rfl (by decide) _ _ _ rfl (World.ownsRow_lit (base := w.heap.size) (e := 5) (size := 1) w #[.int .u8 1] 1 (Nat.le_refl _) (by decide) rfl) ad n1 c1 (l1.map fun x => Value.int .u8 (x.toNat : Int)) rfl HN.out (HA1.out _ ((Below.refl w.heap.size w).alloc (Nat.le_refl _) _)) (bytes_one l1) ?c3 ?c4 ?c5 ?_)
      case c3 => unfold maxLen at *; omega
      case c4 => unfold maxLen at *; omega
      case c5 => simp
      intro v' w3 hown hgrow _
      have hbw : Below w.heap.size w w3 := ((Below.refl w.heap.size w).alloc (Nat.le_refl _) _).grown hgrow (by simp) (fun k hk => by simp [Value.ownBlock] at hk; omega)
      obtain ⟨g, cap, rfl, hby0, hcap⟩ := bytes_own1 hown H1.out.1
      replace hby := Lib.hid (Bytes.take hby0 (min (1 + n1) 1000) (by omega))
      clear hown hgrow hby0
      go_wp2_with (first
        | (go_at_call 6; refine (HC.out _ _ _ hcap).mono ?_; rintro e w4 ⟨rfl, rfl⟩)
        | (go_at_call 5; refine (HPl.out _ _ _ hby.out).mono ?_; rintro e w5 ⟨rfl, hb5⟩; replace hb5 := hbw.trans (hb5.mono hbw.size))
        | (go_at_call 7; refine (HIP.out _ hb5).mono ?_; rintro e w6 ⟨rfl, rfl⟩)
        | (go_at_call 8; refine (HDB.out _).mono ?_; rintro e w7 ⟨rfl, hb7⟩; replace hb7 := hb5.trans (hb7.mono hb5.size))
        | (go_at_call 9; refine (HDoor.out _).mono ?_; rintro e w9 ⟨rfl, hb9⟩))
      go_ret
      exact ⟨rfl, hb7.trans (hb9.mono hb7.size)⟩
end Go.Proofs.Yteeodkmhelmedaa
