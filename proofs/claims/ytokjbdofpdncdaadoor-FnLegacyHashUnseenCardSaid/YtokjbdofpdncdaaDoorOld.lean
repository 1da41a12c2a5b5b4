/- The reader of old-style names: the walk. It reads names behind their numbers, and undoes their escapes; or it says that a text is none. -/
import Derived.Test.YtokjbdofpdncdaaDoorLgHash
import Derived.Test.YtokjbdofpdncdaaDoorSb
import Derived.Test.YtokjbdofpdncdaaDoorShelf
import Derived.Test.YtokjbdofpdncdaaDoorLgMap
import Derived.Deep.DeepCutAuto
import Derived.Deep.LoopGhost
import Derived.Deep.CutBlock
import Derived.WalkMore
import Derived.Deep.RegionWith
namespace Go.Proofs.YtokjbdofpdncdaaDoor
open Go.RowKit Go.Lib Go.Maps Go.WideMaps
set_option linter.unusedVariables false
set_option maxRecDepth 1000000
attribute [local go_sem] bs_size bs_get0

theorem namesTo_len {ws ts : List (List UInt8)} (h : NamesTo ws ts) : ∀ w ∈ ws, w.length ≤ 1000000 := by
  induction h with
  | nil => simp
  | cons _ h2 _ ih =>
    intro w hw
    rcases List.mem_cons.1 hw with rfl | hw
    · exact h2
    · exact ih w hw
theorem or_pow {M d : Nat} (hM : M < 65536) (hd : d < 16) : bits BinOp.or IntKind.u16 (M : Int) (IntKind.u16.wrap (2 ^ d)) = ((M ||| 2 ^ d : Nat) : Int) := by
  have h1 : IntKind.u16.wrap ((2 : Int) ^ d) = ((2 ^ d : Nat) : Int) := by
    rcases lt16 hd with rfl | rfl | rfl | rfl | rfl | rfl | rfl | rfl | rfl | rfl | rfl | rfl | rfl | rfl | rfl | rfl <;> decide
  have h2 : (2 : Nat) ^ d < 2 ^ 16 := Nat.pow_lt_pow_right (by decide) hd
  rw [h1, bits_or_u16 _ _ hM h2]
theorem heap_drewN (W : World) (m : Nat) : (W.drewN m).heap = W.heap := by
  induction m generalizing W with
  | zero => rfl
  | succ m ih => exact ih W.drew
/-- The outer loop: what names are left, what has been told. -/
def OldRel (w : World) (b : Nat) (ts : List (List UInt8)) (tl : List UInt8) (g : Nat) (name : Value) (wr : World) : Prop :=
  ∃ (ws' ts' : List (List UInt8)) (out : List UInt8), name = .string (bs (lgBody ws' ++ tl)) ∧ ws'.length = g ∧ Bld wr b out ∧ Hid (NamesTo ws' ts') ∧ Hid (lgJoin out ts' = lgJoin [] ts) ∧ out.length + 1000002 * ws'.length ≤ 300000000 ∧ Below w.heap.size w wr

theorem oldDig_yes {c : UInt8} (h : isDig c = true) (w : World) :
    Calls Tryd.prog 61 #[.int .u8 (c.toNat : Int)] w fun e w' => e = .returned (.bool true) ∧ w = w' := by
  have h' : 48 ≤ c.toNat ∧ c.toNat ≤ 57 := of_decide_eq_true h
  clear h
  have t1 : 48 ≤ (c.toNat : Int) := by omega
  have t2 : (c.toNat : Int) ≤ 57 := by omega
  go_enter Tryd.func61, Tryd.ntmps61
  go_wp2
  go_ret
  exact ⟨rfl, rfl⟩
theorem oldDig_no {c : UInt8} (h : isDig c = false) (w : World) :
    Calls Tryd.prog 61 #[.int .u8 (c.toNat : Int)] w fun e w' => e = .returned (.bool false) ∧ w = w' := by
  have h' : ¬ (48 ≤ c.toNat ∧ c.toNat ≤ 57) := of_decide_eq_false h
  clear h
  by_cases h1 : 48 ≤ c.toNat
  · have t1 : 48 ≤ (c.toNat : Int) := by omega
    have t2 : ¬ (c.toNat : Int) ≤ 57 := by omega
    go_enter Tryd.func61, Tryd.ntmps61
    go_wp2
    go_ret
    exact ⟨rfl, rfl⟩
  · have t1 : ¬ 48 ≤ (c.toNat : Int) := by omega
    go_enter Tryd.func61, Tryd.ntmps61
    go_wp2
    go_ret
    exact ⟨rfl, rfl⟩
def LgCase (ok : Bool) (out : List UInt8) (ts : List (List UInt8)) (tl : List UInt8) (n : Nat) (v : Int) (l : List UInt8) : Prop :=
  (ok = false ∧ ∃ d s, l = d :: s ∧ d ≠ 95 ∧ (l.length : Int) < v) ∨
  (∃ (wd t : List UInt8) (ws2 ts2 : List (List UInt8)), l = wd ++ (lgBody ws2 ++ tl) ∧ v = (wd.length : Int) ∧ NameTo wd t ∧ wd.length ≤ 1000000 ∧ NamesTo ws2 ts2 ∧ lgJoin (lgSep out ++ t) ts2 = lgJoin [] ts ∧ ws2.length + 1 = n)
theorem LgCase.pos {ok : Bool} {out : List UInt8} {ts : List (List UInt8)} {tl : List UInt8} {n : Nat} {v : Int} {l : List UInt8} (h : LgCase ok out ts tl n v l) : l ≠ [] := by
  rcases h with ⟨_, d, s, rfl, _⟩ | ⟨wd, t, _, _, rfl, _, h, _⟩
  · simp
  · cases h <;> simp
theorem lg_case {ws' ts' ts : List (List UInt8)} {tl out : List UInt8} {ok : Bool} (hN : NamesTo ws' ts') (hT : LgTail tl ok) (hj : lgJoin out ts' = lgJoin [] ts) :
    (ws' = [] ∧ ok = true ∧ tl = [] ∧ out = lgJoin [] ts) ∨
    ∃ c r, lgBody ws' ++ tl = c :: r ∧ isDig c = true ∧ ((ok = false ∧ decgo 0 (c :: r) = none) ∨ ∃ v l, decgo 0 (c :: r) = some (v, l) ∧ 0 ≤ v ∧ v ≤ 10000000000 ∧ LgCase ok out ts tl ws'.length v l) := by
  cases hN with
  | nil =>
    cases ok with
    | true => exact .inl ⟨rfl, rfl, hT, hj⟩
    | false =>
      obtain ⟨c, r, e, hd, h⟩ := hT
      refine .inr ⟨c, r, e, hd, ?_⟩
      rw [← e]
      rcases h with h | ⟨v, d, s, h, h95, h0, h1, h2⟩
      · exact .inl ⟨rfl, h⟩
      · exact .inr ⟨v, d :: s, h, h0, h1, .inl ⟨rfl, d, s, rfl, h95, h2⟩⟩
  | @cons wd t ws2 ts2 h1 h2 h3 =>
    right
    obtain ⟨c, r, e⟩ : ∃ c r, decDigits wd.length = c :: r := by
      cases h : decDigits wd.length with
      | nil => exact absurd h (decDigits_pos _)
      | cons c r => exact ⟨c, r, rfl⟩
    have e2 : lgBody (wd :: ws2) ++ tl = c :: (r ++ (wd ++ (lgBody ws2 ++ tl))) := by simp [lgBody, e]
    refine ⟨c, _, e2, decDigits_dig wd.length c (by rw [e]; simp), .inr ⟨wd.length, wd ++ (lgBody ws2 ++ tl), ?_, by omega, by omega, .inr ⟨wd, t, ws2, ts2, rfl, rfl, h1, h2, h3, hj, rfl⟩⟩⟩
    have e3 : c :: (r ++ (wd ++ (lgBody ws2 ++ tl))) = decDigits wd.length ++ (wd ++ (lgBody ws2 ++ tl)) := by simp [e]
    rw [e3, decgo_digits (by omega)]
    cases h1 with
    | plain hd _ _ => exact decgo_off hd
    | under _ _ => exact decgo_off (by decide)
theorem NameTo.id {wd t : List UInt8} (h : NameTo wd t) : ∃ c l, c ≠ 95 ∧ EscTo (c :: l) t ∧ ((wd = c :: l) ∨ wd = 95 :: c :: l) := by
  cases h with
  | plain h1 h2 h3 => exact ⟨_, _, h2, h3, .inl rfl⟩
  | under h2 h3 => exact ⟨_, _, h2, h3, .inr rfl⟩
theorem oldPre {F : List UInt8} (h : Lib.hasPrefix F [95, 36] = false) (W : World) :
    Calls Tryd.prog 63 #[.string (bs F), .string ⟨#[95, 36]⟩] W fun e w' => e = .returned (.bool false) ∧ W = w' := by
  refine (Tryd.strings_HasPrefix (bs F) (bs [95, 36]) W).mono ?_
  rintro e w' ⟨rfl, rfl⟩
  rw [bs_data, bs_data, h]
  exact ⟨rfl, rfl⟩
theorem noPre {c : UInt8} {l : List UInt8} (h : c ≠ 95) : Lib.hasPrefix (c :: l) [95, 36] = false := by
  have e2 : ((95 : UInt8) == c) = false := by simpa using fun h1 : (95 : UInt8) = c => h h1.symm
  simp [Lib.hasPrefix, List.isPrefixOf, e2]
theorem dotPre {l : List UInt8} (W : World) :
    Calls Tryd.prog 63 #[.string (bs (46 :: 46 :: l)), .string ⟨#[46, 46]⟩] W fun e w' => e = .returned (.bool true) ∧ W = w' := by
  refine (Tryd.strings_HasPrefix (bs (46 :: 46 :: l)) (bs [46, 46]) W).mono ?_
  rintro e w' ⟨rfl, rfl⟩
  rw [bs_data, bs_data, show Lib.hasPrefix (46 :: 46 :: l) [46, 46] = true by simp [Lib.hasPrefix, List.isPrefixOf]]
  exact ⟨rfl, rfl⟩
def DigRel (w : World) (res : Option (Int × List UInt8)) (g : Nat) (name val : Value) (wr : World) : Prop :=
  ∃ (v : Int) (l : List UInt8), name = .string (bs l) ∧ val = .int .i64 v ∧ Hid (l.length = g) ∧ Hid (decgo v l = res) ∧ 0 ≤ v ∧ v ≤ 10000000000 ∧ l.length ≤ 400000001 ∧ w = wr
def EscRel (w : World) (b : Nat) (tot : List UInt8) (g : Nat) (id : Value) (wr : World) : Prop :=
  ∃ l t o : List UInt8, id = .string (bs l) ∧ Hid (l.length = g) ∧ Hid (EscTo l t) ∧ Hid (o ++ t = tot) ∧ Bld wr b o ∧ o.length + l.length ≤ 400000000 ∧ Below w.heap.size w wr

set_option maxHeartbeats 40000000 in
theorem old_any {w : World} {ws ts : List (List UInt8)} {tl h : List UInt8} {ok : Bool} (hN : NamesTo ws ts) (hT : LgTail tl ok) (hh : HashOk h) (hn : ws.length ≤ 200) (htl : tl.length ≤ 2000000) :
    Calls Tryd.prog 36 #[.string (bs (95 :: 90 :: 78 :: (lgBody ws ++ tl ++ (49 :: 55 :: 104 :: (h ++ [69]))))), .slice none 0 0] w fun e w' =>
      e = .returned (.tuple #[.string (bs (if ok then lgJoin [] ts else [])), .bool ok]) ∧ Below w.heap.size w w' := by
  have hmf : ∀ (fn : Fn) (first cap : Array Value) (w : World), (Instr.makeFunc fn first cap).run Tryd.prog w = .ok (.func fn first cap) w := fun _ _ _ _ => rfl
  obtain ⟨hh1, hh2, hh3⟩ := hh
  have hwl : (lgBody ws).length ≤ 1000020 * ws.length := lgBody_len (namesTo_len hN)
  obtain ⟨B, hB⟩ : ∃ B, lgBody ws ++ tl = B := ⟨_, rfl⟩
  have hBl : B.length ≤ 300000000 := by rw [← hB, List.length_append]; omega
  rw [hB]
  obtain ⟨R, hR⟩ : ∃ R, B ++ (49 :: 55 :: 104 :: (h ++ [69])) = R := ⟨_, rfl⟩
  have hRl : R.length = B.length + 20 := by rw [← hR]; simp; omega
  have hx3 : (bs (95 :: 90 :: 78 :: R)).extract 3 (B.length + 20 + 1 + 1 + 1) = bs R := by
    have := bs_from (95 :: 90 :: 78 :: R) 3
    rw [← hRl]
    exact this
  have hget : ∀ (k : Nat) (hk : k < 16) (hp : B.length + 3 + k < (bs R).size), (bs R)[B.length + 3 + k]'hp = h[k]'(by omega) := by
    intro k hk hp
    rw [bs_get]
    subst hR
    rw [List.getElem_append_right (by omega)]
    have e : B.length + 3 + k - B.length = k + 1 + 1 + 1 := by omega
    simp only [e, List.getElem_cons_succ]
    rw [List.getElem_append_left (by omega)]
  have hx4 : (bs R).extract 0 B.length = bs B := by rw [bs_to, ← hR]; simp
  rw [hR]
  have HH := Lib.hid hh2
  have HG := Lib.hid hget
  have HN := Lib.hid hN
  have HT := Lib.hid hT
  replace hB := Lib.hid hB
  clear hh2 hget hN hT hR hwl
  go_enter Tryd.func36, Tryd.ntmps36
  go_wp2_with fail
  go_loop [6, 31] (fun m i => m = .int .i64 0 ∧ i = .int .i64 0) (fun _ _ => 0)
  case atStart => exact ⟨rfl, rfl⟩
  case round =>
    obtain ⟨rfl, rfl⟩ := hrel
    go_wp2_with fail
    go_loopg [10, 11] 16 (fun g s i wr => ∃ k : Nat, s = .int .u16 (maskH (h.take k) : Int) ∧ i = .int .i64 ((B.length : Int) + 3 + (k : Int)) ∧ k + g = 16 ∧ w = wr)
    case atStart => exact ⟨0, rfl, by go_num, by omega, rfl⟩
    case round =>
      obtain ⟨k, rfl, rfl, hg, rfl⟩ := hrel
      by_cases hk : k < 16
      · have hkl : k < h.length := by omega
        have hp : B.length + 3 + k < (bs R).size := by rw [bs_size]; omega
        have hgk := HG.out k hk hp
        have hlo := HH.out h[k] (List.getElem_mem _)
        have hm1 : maskH (h.take (k + 1)) = maskH (h.take k) ||| 2 ^ hexV h[k] := by
          rw [List.take_succ_eq_append_getElem hkl, maskH_snoc]
        have hv := hexV_lt h[k]
        have hml := maskH_lt (h.take k)
        generalize h[k] = c at *
        have HD := Lib.hid (fun W => hexDigit_any hlo W)
        generalize hexV c = d at *
        clear hx3 hx4 hlo
        go_wp2_with (go_at_call 58; refine (HD.out _).mono ?_; rintro e w2 ⟨rfl, rfl⟩)
        go_roundg (16 - (k + 1))
        case measure => omega
        case rel => exact ⟨k + 1, by rw [or_pow hml hv, hm1], by go_num, by omega, rfl⟩
      · obtain rfl : k = 16 := by omega
        have ht : h.take 16 = h := List.take_of_length_le (by omega)
        have HO := Lib.hid (ones_any (maskH h) (maskH_lt h))
        rw [ht]
        have h5 : ¬ (pop16 (maskH h) : Int) < 5 := by omega
        clear hh1 hh3 HH HG ht
        go_wp2_with (go_at_call 59; refine (HO.out _).mono ?_; rintro e w2 ⟨rfl, m, rfl⟩)
        have hst : OldRel w w.heap.size ts tl ws.length (.string (bs B)) ((w.drewN m).alloc (.cells #[.pointer none, .slice none 0 0] 111)) := by
          refine ⟨ws, ts, [], by rw [hB.out], rfl, ?_, HN, Lib.hid rfl, by simp; omega, (below_drewN (Below.refl _ _) m).alloc (by have := (below_drewN (Below.refl w.heap.size w) m).size; exact this) _⟩
          have := Bld.new (w.drewN m)
          rw [heap_drewN] at this
          exact this
        replace hst := Lib.hid hst
        clear hx3 hx4 HN hB hBl hRl h5
        go_loopg [0] ws.length (fun g v wc => OldRel w w.heap.size ts tl g v wc)
        case atStart => exact hst.out
        case round =>
          clear hst
          rename World => wo
          obtain ⟨ws', ts', out, rfl, hg, hb, hn', hj, hlen, hbel⟩ := hrel
          rcases lg_case hn'.out HT.out hj.out with ⟨rfl, rfl, rfl, hjo⟩ | ⟨c, r, hN2, hdg, hcase⟩
          · as_aux_lemma =>
            have HS := Lib.hid (sbString_any hb)
            have hbs := hb.lt
            have e0 : lgBody [] ++ ([] : List UInt8) = [] := rfl
            rw [e0]
            clear hj HT hn' hb
            go_wp2_with (go_at_call 65; refine (HS.out).mono ?_; rintro e w3 ⟨rfl, hb3⟩)
            subst hjo
            go_ret2
            exact ⟨rfl, hbel.trans (hb3.mono (by omega))⟩
          · rw [hN2]
            have HCase := Lib.hid hcase
            have HY := Lib.hid (fun W => oldDig_yes hdg W)
            have hp0 : 0 < (bs (c :: r)).size := by rw [bs_size]; simp
            have hlr : r.length ≤ 400000000 := by
              have h1 := congrArg List.length hN2
              have h2 := lgBody_len (ws := ws') (namesTo_len hn'.out)
              simp at h1
              omega
            have HB := Lib.hid hb
            have HJ := Lib.hid hN2
            clear hn' hj hcase hb hN2
            go_wp2_with fail
            go_step3
            go_wp2_with (go_at_call 61; refine (HY.out _).mono ?_; rintro e w2 ⟨rfl, rfl⟩)
            go_loopg [0, 15] (c :: r).length (fun g nm v wc => DigRel wo (decgo 0 (c :: r)) g nm v wc)
            case atStart => exact ⟨0, c :: r, rfl, rfl, Lib.hid rfl, Lib.hid rfl, by omega, by omega, by simp; omega, rfl⟩
            case round =>
              obtain ⟨v, l, rfl, rfl, hgl, hdec, hv0, hv1, hll, hwe⟩ := hrel
              subst hwe
              clear HY hp0
              cases l with
              | nil =>
                exfalso
                have := hdec.out
                rw [decgo] at this
                rcases HCase.out with ⟨_, h⟩ | ⟨v2, l2, h, _, _, h2⟩
                · rw [h] at this; cases this
                · rw [h] at this
                  simp only [Option.some.injEq, Prod.mk.injEq] at this
                  exact h2.pos this.2.symm
              | cons d s =>
                have hp0 : 0 < (bs (d :: s)).size := by rw [bs_size]; simp
                cases hdd : isDig d with
                | true =>
                  have HY := Lib.hid (fun W => oldDig_yes hdd W)
                  have hdn : 48 ≤ d.toNat ∧ d.toNat ≤ 57 := of_decide_eq_true hdd
                  have hx1 : (bs (d :: s)).extract 1 (s.length + 1) = bs s := bs_from (d :: s) 1
                  have t1 : 48 ≤ (d.toNat : Int) := by omega
                  have t2 : (d.toNat : Int) ≤ 57 := by omega
                  have hsl : s.length ≤ 400000000 := by simp at hll; omega
                  clear hdn
                  by_cases hov : 214748364 - ((d.toNat : Int) - 48) ≤ v
                  · as_aux_lemma =>
                    have e := hdec.out
                    rw [decgo_over hdd hov] at e
                    have hok : ok = false := by
                      rcases HCase.out with ⟨h, _⟩ | ⟨v2, l2, h, _⟩
                      · exact h
                      · rw [h] at e; cases e
                    clear hdec e
                    go_wp2_with (go_at_call 61; refine (HY.out _).mono ?_; rintro e w2 ⟨rfl, rfl⟩)
                    subst hok
                    rw [Exit.noGoto_ret]
                    go_ret2
                    exact ⟨rfl, hbel⟩
                  · as_aux_lemma =>
                    go_wp2_with (go_at_call 61; refine (HY.out _).mono ?_; rintro e w2 ⟨rfl, rfl⟩)
                    have hd2 := hdec.out
                    rw [decgo_on hdd (by omega)] at hd2
                    have hgl2 := hgl.out
                    simp only [List.length_cons] at hgl2
                    go_roundg s.length
                    case measure => omega
                    case rel => exact ⟨v * 10 + ((d.toNat : Int) - 48), s, rfl, by go_num, Lib.hid rfl, Lib.hid hd2, by omega, by omega, by omega, rfl⟩
                | false =>
                  have HY := Lib.hid (fun W => oldDig_no hdd W)
                  have hres := hdec.out
                  rw [decgo_off hdd] at hres
                  go_upto_if 118 with (go_at_call 61; refine (HY.out _).mono ?_; rintro e w2 ⟨rfl, rfl⟩)
                  have hcs : LgCase ok out ts tl ws'.length v (d :: s) := by
                    rcases HCase.out with ⟨_, h⟩ | ⟨v2, l2, h, _, _, h2⟩
                    · rw [h] at hres; cases hres
                    · rw [h] at hres
                      simp only [Option.some.injEq, Prod.mk.injEq] at hres
                      obtain ⟨rfl, rfl⟩ := hres
                      exact h2
                  clear hres hdec HCase
                  rcases hcs with ⟨hok, d2, s2, e2, h95, hlv⟩ | ⟨wd, t, ws2, ts2, e2, e3, hnm, hwdl, hN3, hj3, hw3⟩
                  · as_aux_lemma =>
                    simp only [List.cons.injEq] at e2
                    obtain ⟨rfl, rfl⟩ := e2
                    have h95' : d.toNat ≠ 95 := fun e => h95 (UInt8.toNat_inj.1 e)
                    have cb : ((d.toNat : Int) == 95) = false := by simp; omega
                    simp only [List.length_cons] at hlv
                    have hlv' : (s.length : Int) + 1 < v := by omega
                    clear HY h95 h95' hlv
                    go_wp2
                    subst hok
                    rw [Exit.noGoto_ret]
                    go_ret2
                    exact ⟨rfl, hbel⟩
                  · obtain ⟨c1, l1, hc95, hesc, hwd⟩ := hnm.id
                    obtain ⟨rest, hrest⟩ : ∃ x, lgBody ws2 ++ tl = x := ⟨_, rfl⟩
                    rw [hrest] at e2
                    have hlen3 : (c1 :: l1).length ≤ 1000000 := by rcases hwd with h | h <;> rw [h] at hwdl <;> simp at hwdl ⊢ <;> omega
                    have hrl : rest.length ≤ 400000001 := by
                      have := congrArg List.length e2
                      simp at this hll
                      omega
                    go_cut [0, 15] (fun nm v wx => nm = .string (bs ((c1 :: l1) ++ rest)) ∧ v = .int .i64 ((c1 :: l1).length : Int) ∧ wo = wx)
                    case first =>
                      have HJ2 := Lib.hid hrest
                      clear hrest hesc hnm hN3 hj3 HJ HB
                      rcases hwd with rfl | rfl
                      · as_aux_lemma =>
                        simp only [List.cons_append, List.cons.injEq] at e2
                        obtain ⟨rfl, rfl⟩ := e2
                        have h95' : d.toNat ≠ 95 := fun e => hc95 (UInt8.toNat_inj.1 e)
                        have cb : ((d.toNat : Int) == 95) = false := by simp; omega
                        clear h95'
                        subst e3
                        clear hw3 hrl HJ2 hc95 hlen3 hwdl hgl hll hv0 hv1 hlr hdg hlen HY
                        go_wp2
                        go_meet
                        exact ⟨rfl, rfl, rfl⟩
                      · as_aux_lemma =>
                        simp only [List.cons_append, List.cons.injEq] at e2
                        obtain ⟨rfl, rfl⟩ := e2
                        have cb : ((95 : UInt8).toNat : Int) = 95 := rfl
                        have hx1 : (bs (95 :: c1 :: (l1 ++ rest))).extract 1 (l1.length + rest.length + 1 + 1) = bs (c1 :: (l1 ++ rest)) := by have := bs_from (95 :: c1 :: (l1 ++ rest)) 1; simpa using this
                        subst e3
                        clear hw3 HJ2 hc95 hgl hv0 hv1 hlr hdg hlen HY
                        go_wp2
                        go_meet
                        exact ⟨rfl, congrArg (Value.int .i64) (by unfold wrap64; simp only [List.length_cons] at hlen3 ⊢; omega), rfl⟩
                    case rest =>
                      obtain ⟨rfl, rfl, rfl⟩ := hcut
                      have HP := Lib.hid (fun W => oldPre (F := c1 :: l1) (noPre hc95) W)
                      have hbound : (lgSep out).length + (c1 :: l1).length ≤ 400000000 := by
                        unfold lgSep
                        split
                        · simp at hlen3 ⊢; omega
                        · rw [List.length_append]; simp at hlen3 ⊢; omega
                      have HG2 := Lib.hid (hw3.trans hg)
                      have HL3 := Lib.hid (show (lgSep out ++ t).length + 1000002 * ws2.length ≤ 300000000 by
                        have h1 := hesc.len
                        have h2 : (lgSep out).length ≤ out.length + 2 := by unfold lgSep; split <;> simp
                        rw [List.length_append]
                        omega)
                      have HE := Lib.hid hesc
                      have HR := Lib.hid (show lgBody ws2 ++ tl = rest from hrest)
                      have HN3 := Lib.hid hN3
                      have HJ3 := Lib.hid hj3
                      generalize hidl : c1 :: l1 = idl at *
                      have hx2 : (bs (idl ++ rest)).extract 0 idl.length = bs idl := by rw [bs_to]; simp
                      have hx5 : (bs (idl ++ rest)).extract idl.length (idl.length + rest.length) = bs rest := by
                        have := bs_from (idl ++ rest) idl.length
                        simpa using this
                      clear hesc hrest hN3 hj3 hw3 hg hidl hwdl hwd hc95 hgl hll hp0 hdd HY hdg hlr e2 e3 hv0 hv1 HJ
                      have HLn := Lib.hid (sbLen_any HB.out)
                      go_upto_if 134 with (go_at_call 60; refine (HLn.out).mono ?_; rintro e w3 ⟨rfl, hw3⟩; subst hw3)
                      go_cut [0, 17] (fun nm id wx => nm = .string (bs rest) ∧ id = .string (bs idl) ∧ Bld wx w.heap.size (lgSep out) ∧ Below w.heap.size w wx)
                      case first =>
                        by_cases ho : out = []
                        · as_aux_lemma =>
                          have hs : lgSep out = [] := if_pos ho
                          have hz : ¬ (0 : Int) < (out.length : Int) := by rw [ho]; simp
                          have HS := Lib.hid hs
                          have HB2 := HB.out
                          rw [ho] at HB2
                          replace HB2 := Lib.hid HB2
                          clear hs ho HB
                          go_wp2
                          go_meet
                          exact ⟨rfl, rfl, by rw [HS.out]; exact HB2.out, hbel⟩
                        · as_aux_lemma =>
                          have hs : lgSep out = out ++ [58, 58] := if_neg ho
                          have hz : (0 : Int) < (out.length : Int) := by have := List.length_pos_iff.2 ho; omega
                          have HW := Lib.hid (sbWrite_any HB.out [58, 58] (by simp; omega))
                          have HS := Lib.hid hs
                          clear hs ho
                          go_wp2_with (go_at_call 62; refine (HW.out).mono ?_; rintro e w3 ⟨⟨x, rfl⟩, hb3, hl3⟩)
                          go_meet
                          exact ⟨rfl, rfl, by rw [HS.out]; exact hb3, hbel.trans (hl3.mono (Nat.le_refl _))⟩
                      case rest =>
                        obtain ⟨rfl, rfl, hb5, hbel5⟩ := hcut
                        clear HLn HB hx2 hx5
                        go_wp2_with (go_at_call 63; refine (HP.out _).mono ?_; rintro e w3 ⟨rfl, rfl⟩)
                        go_step3
                        go_wp2_with fail
                        go_loopg [17] idl.length (fun g id wx => EscRel w w.heap.size (lgSep out ++ t) g id wx)
                        case atStart => exact ⟨idl, t, lgSep out, rfl, Lib.hid rfl, HE, Lib.hid rfl, hb5, hbound, hbel5⟩
                        case round =>
                          clear HE hb5 hbel5 HP hbel hlen hrl hlen3
                          rename World => we
                          obtain ⟨l, t', o, rfl, hgl, hesc, hot, hbo, hol, hbelo⟩ := hrel
                          have hblt := hbo.lt
                          have HBo := Lib.hid hbo
                          clear hbo
                          have hes := hesc.out
                          clear hesc
                          by_cases h36 : ∃ l1, l = 36 :: l1
                          · obtain ⟨lr, rfl⟩ := h36
                            have hp0 : 0 < (bs (36 :: lr)).size := by rw [bs_size]; simp
                            have cb36 : ((36 : UInt8).toNat : Int) = 36 := rfl
                            go_upto_region 51 with fail
                            go_cut [17, 19] (fun id mm wx => id = .string (bs (36 :: lr)) ∧ mm = .map (some we.heap.size) ∧ wx.ownsMap Tryd.prog 9 (plainElem (H := Unit) Tryd.prog 5) we.heap.size 7 lgMap ∧ Bld wx w.heap.size o ∧ Below w.heap.size w wx)
                            case first =>
                              as_aux_lemma =>
                                have hmm := @run_makeMap Tryd.prog
                                have hown : (we.alloc (.map #[] 0)).ownsMap Tryd.prog 9 (plainElem (H := Unit) Tryd.prog 5) we.heap.size 0 (.map []) := World.ownsMap_made _ _ _ _
                                have hbo := HBo.out.alloc (.map #[] 0)
                                have hbl := hbelo.alloc hbelo.size (.map #[] 0)
                                have hsz : we.heap.size < (we.alloc (.map #[] 0)).heap.size := by simp
                                have hwe := hbelo.size
                                clear hgl hot HBo hes
                                go_wp2_with (refine wpList_insert_own (H := Unit) _ rfl _ _ _ 115 rfl 9 5 lgLaw Tryd.underlying115 _ _ _ _ rfl hown (by unfold maxLen; omega) _ _ _ rfl rfl (lgKey _ (by simp)) _ [] (plainElem_int Tryd.underlying5 (by decide)) ?_; intro w5 hown5 hgrow5; replace hbo := hbo.grown hgrow5 (ownsMap_is hown); replace hbl := hbl.grown hgrow5 hbl.size (fun j hj => by cases hj; exact hwe); replace hown := hown5; clear hgrow5)
                                go_meet
                                exact ⟨rfl, rfl, hown, hbo, hbl⟩
                            case rest =>
                              obtain ⟨rfl, rfl, hown, hbo, hbl⟩ := hcut
                              rename World => wy
                              have HBy := Lib.hid hbo
                              have HOwn := Lib.hid hown
                              have hblt2 := hbo.lt
                              clear hbo hown HBo hbelo hblt
                              cases hes with
                              | chr h1 _ _ => exact absurd rfl h1
                              | @comma l2 t2 e3 =>
                                as_aux_lemma =>
                                  have hgl2 := hgl.out
                                  simp only [List.length_cons] at hgl2 hol
                                  replace hgl2 := Lib.hid hgl2
                                  have hp1 : 1 < (bs (36 :: 67 :: 36 :: l2)).size := by rw [bs_size]; simp
                                  have hp2 : 2 < (bs (36 :: 67 :: 36 :: l2)).size := by rw [bs_size]; simp
                                  have g1 : (bs (36 :: 67 :: 36 :: l2))[1]'hp1 = 67 := by rw [bs_get]; rfl
                                  have g2 : (bs (36 :: 67 :: 36 :: l2))[2]'hp2 = 36 := by rw [bs_get]; rfl
                                  have cb67 : ((67 : UInt8).toNat : Int) = 67 := rfl
                                  have hx1 : (bs (36 :: 67 :: 36 :: l2)).extract 3 (l2.length + 1 + 1 + 1) = bs l2 := bs_from (36 :: 67 :: 36 :: l2) 3
                                  have hlen2 : (2 : Int) < (l2.length : Int) + 1 + 1 + 1 := by omega
                                  have HY : Hid (Calls Tryd.prog 64 #[.pointer (some ⟨w.heap.size, 0, none⟩), .int .u8 44] wy fun e w' => (∃ v, e = .returned v) ∧ Bld w' w.heap.size (o ++ [44]) ∧ Below w.heap.size wy w') := Lib.hid (sbByte_any HBy.out 44 (by omega))
                                  have HE3 := Lib.hid e3
                                  clear hgl HBy HOwn e3
                                  go_wp2_with (go_at_call 64; refine (HY.out).mono ?_; rintro e w3 ⟨⟨x, rfl⟩, hb3, hl3⟩)
                                  go_roundg l2.length
                                  case measure => have := hgl2.out; omega
                                  case rel => exact ⟨l2, t2, o ++ [44], rfl, Lib.hid rfl, HE3, Lib.hid (by rw [← hot.out]; simp), hb3, by simp; omega, hbl.trans hl3⟩
                              | @hex x y a b l2 t2 e1 e2 e3 e4 e5 =>
                                as_aux_lemma =>
                                  have hgl2 := hgl.out
                                  simp only [List.length_cons] at hgl2 hol
                                  replace hgl2 := Lib.hid hgl2
                                  have hp1 : 1 < (bs (36 :: 117 :: x :: y :: 36 :: l2)).size := by rw [bs_size]; simp
                                  have hp2 : 2 < (bs (36 :: 117 :: x :: y :: 36 :: l2)).size := by rw [bs_size]; simp
                                  have hp3 : 3 < (bs (36 :: 117 :: x :: y :: 36 :: l2)).size := by rw [bs_size]; simp
                                  have hp4 : 4 < (bs (36 :: 117 :: x :: y :: 36 :: l2)).size := by rw [bs_size]; simp
                                  have g1 : (bs (36 :: 117 :: x :: y :: 36 :: l2))[1]'hp1 = 117 := by rw [bs_get]; rfl
                                  have g2 : (bs (36 :: 117 :: x :: y :: 36 :: l2))[2]'hp2 = x := by rw [bs_get]; rfl
                                  have g3 : (bs (36 :: 117 :: x :: y :: 36 :: l2))[3]'hp3 = y := by rw [bs_get]; rfl
                                  have g4 : (bs (36 :: 117 :: x :: y :: 36 :: l2))[4]'hp4 = 36 := by rw [bs_get]; rfl
                                  have cb117 : ((117 : UInt8).toNat : Int) = 117 := rfl
                                  have hx1 : (bs (36 :: 117 :: x :: y :: 36 :: l2)).extract 5 (l2.length + 1 + 1 + 1 + 1 + 1) = bs l2 := bs_from (36 :: 117 :: x :: y :: 36 :: l2) 5
                                  have va : hexV x = a := by unfold hexV; rw [e1]; rfl
                                  have vb : hexV y = b := by unfold hexV; rw [e2]; rfl
                                  have hb16 := hexLo_lt e2
                                  have HDx := Lib.hid (fun W => (by have := hexDigit_any (c := x) (by rw [va]; exact e1) W; rw [va] at this; exact this : Calls Tryd.prog 58 #[.int .u8 (x.toNat : Int)] W fun e w' => e = .returned (.tuple #[.int .u8 (a : Int), .bool true]) ∧ w' = W))
                                  have HDy := Lib.hid (fun W => (by have := hexDigit_any (c := y) (by rw [vb]; exact e2) W; rw [vb] at this; exact this : Calls Tryd.prog 58 #[.int .u8 (y.toNat : Int)] W fun e w' => e = .returned (.tuple #[.int .u8 (b : Int), .bool true]) ∧ w' = W))
                                  have HE3 := Lib.hid e5
                                  clear hgl HOwn e5 va vb e1 e2
                                  obtain ⟨C, hC⟩ : ∃ C, UInt8.ofNat (a * 16 + b) = C := ⟨_, rfl⟩
                                  have hCn : C.toNat = a * 16 + b := by rw [← hC, UInt8.toNat_ofNat']; omega
                                  have hor : bits BinOp.or IntKind.u8 ((a : Int) * 16) (b : Int) = (C.toNat : Int) := by
                                    have h1 := bits_or_u8 (a * 16) b (by omega) (by omega)
                                    rw [Int.natCast_mul] at h1
                                    have h2 : 2 ^ 4 * a + b = 2 ^ 4 * a ||| b := Nat.two_pow_add_eq_or_of_lt (i := 4) (b := b) (by omega) a
                                    rw [show ((16 : Nat) : Int) = 16 from rfl] at h1
                                    rw [h1, hCn]
                                    congr 1
                                    rw [Nat.mul_comm a 16]
                                    exact h2.symm
                                  rw [hC] at hot
                                  have t3 : (a : Int) ≤ 7 := by omega
                                  have t4 : ¬ (C.toNat : Int) < 32 := by omega
                                  have HY := Lib.hid (sbByte_any HBy.out C (by omega))
                                  have ha16 : (0 : Int) ≤ (a : Int) * 16 := by omega
                                  have ha17 : (a : Int) * 16 < 256 := by omega
                                  clear hC hCn HBy hb16 e3 e4
                                  go_wp2_with (first
                                    | (go_at_call 58; with_reducible refine (HDx.out _).mono ?_; rintro e w3 ⟨rfl, hw3⟩; subst hw3)
                                    | (go_at_call 58; with_reducible refine (HDy.out _).mono ?_; rintro e w4 ⟨rfl, hw4⟩; subst hw4)
                                    | (go_at_call 64; refine (HY.out).mono ?_; rintro e w5 ⟨⟨x, rfl⟩, hb3, hl3⟩))
                                  go_roundg l2.length
                                  case measure => have := hgl2.out; omega
                                  case rel => exact ⟨l2, t2, o ++ [C], rfl, Lib.hid rfl, HE3, Lib.hid (by rw [← hot.out]; simp), hb3, by simp; omega, hbl.trans hl3⟩
                              | @code x y c2 l2 t2 e1 e3 =>
                                obtain ⟨f1, f2, f3, f4⟩ := lgCode_fact e1
                                rcases (show l2 = [] ∨ 0 < l2.length by cases l2 <;> simp) with hl0 | hl0
                                · as_aux_lemma =>
                                    have hgl2 := hgl.out
                                    simp only [List.length_cons] at hgl2 hol
                                    replace hgl2 := Lib.hid hgl2
                                    have hp1 : 1 < (bs (36 :: x :: y :: 36 :: l2)).size := by rw [bs_size]; simp
                                    have hp3 : 3 < (bs (36 :: x :: y :: 36 :: l2)).size := by rw [bs_size]; simp
                                    have g1 : (bs (36 :: x :: y :: 36 :: l2))[1]'hp1 = x := by rw [bs_get]; rfl
                                    have g3 : (bs (36 :: x :: y :: 36 :: l2))[3]'hp3 = 36 := by rw [bs_get]; rfl
                                    have n67 : x.toNat ≠ 67 := fun e => f1 (UInt8.toNat_inj.1 e)
                                    have n117 : x.toNat ≠ 117 := fun e => f2 (UInt8.toNat_inj.1 e)
                                    have cb67 : ((x.toNat : Int) == 67) = false := by simp; omega
                                    have cb117 : ((x.toNat : Int) == 117) = false := by simp; omega
                                    have hx1 : (bs (36 :: x :: y :: 36 :: l2)).extract 4 (l2.length + 1 + 1 + 1 + 1) = bs l2 := bs_from (36 :: x :: y :: 36 :: l2) 4
                                    have hx9 : (bs (36 :: x :: y :: 36 :: l2)).extract 1 3 = bs [x, y] := by rw [bs_extract]; rfl
                                    have HY := Lib.hid (sbByte_any HBy.out c2 (by omega))
                                    have HE3 := Lib.hid e3
                                    have hl4 : ¬ (0 : Int) < (l2.length : Int) := by rw [hl0]; simp
                                    clear n67 n117 f1 f2 e1 e3 hgl HBy hl0
                                    go_wp2_with (first
                                      | (at_lookup; refine wpList_lookup_own_ok_int _ rfl _ _ 115 rfl 9 5 .u8 lgLaw Tryd.underlying115 Tryd.underlying5 (lgZero _) _ _ _ rfl HOwn.out _ _ rfl (lgKey [x, y] (by simp)) ?_; intro c3 hat hwc; obtain rfl : c3 = (c2.toNat : Int) := by (have := hat.symm.trans f3; simpa using this))
                                      | (go_at_call 64; refine (HY.out).mono ?_; rintro e w5 ⟨⟨x, rfl⟩, hb3, hl3⟩))
                                    go_roundg l2.length
                                    case measure => have := hgl2.out; omega
                                    case rel => exact ⟨l2, t2, o ++ [c2], rfl, Lib.hid rfl, HE3, Lib.hid (by rw [← hot.out]; simp), hb3, by simp; omega, hbl.trans hl3⟩
                                · as_aux_lemma =>
                                    have hgl2 := hgl.out
                                    simp only [List.length_cons] at hgl2 hol
                                    replace hgl2 := Lib.hid hgl2
                                    have hp1 : 1 < (bs (36 :: x :: y :: 36 :: l2)).size := by rw [bs_size]; simp
                                    have hp3 : 3 < (bs (36 :: x :: y :: 36 :: l2)).size := by rw [bs_size]; simp
                                    have g1 : (bs (36 :: x :: y :: 36 :: l2))[1]'hp1 = x := by rw [bs_get]; rfl
                                    have g3 : (bs (36 :: x :: y :: 36 :: l2))[3]'hp3 = 36 := by rw [bs_get]; rfl
                                    have n67 : x.toNat ≠ 67 := fun e => f1 (UInt8.toNat_inj.1 e)
                                    have n117 : x.toNat ≠ 117 := fun e => f2 (UInt8.toNat_inj.1 e)
                                    have cb67 : ((x.toNat : Int) == 67) = false := by simp; omega
                                    have cb117 : ((x.toNat : Int) == 117) = false := by simp; omega
                                    have hx1 : (bs (36 :: x :: y :: 36 :: l2)).extract 4 (l2.length + 1 + 1 + 1 + 1) = bs l2 := bs_from (36 :: x :: y :: 36 :: l2) 4
                                    have hx9 : (bs (36 :: x :: y :: 36 :: l2)).extract 1 3 = bs [x, y] := by rw [bs_extract]; rfl
                                    have HY := Lib.hid (sbByte_any HBy.out c2 (by omega))
                                    have HE3 := Lib.hid e3
                                    have hl4 : (0 : Int) < (l2.length : Int) := by omega
                                    clear n67 n117 f1 f2 e1 e3 hgl HBy hl0
                                    go_wp2_with (first
                                      | (at_lookup; refine wpList_lookup_own_ok_int _ rfl _ _ 115 rfl 9 5 .u8 lgLaw Tryd.underlying115 Tryd.underlying5 (lgZero _) _ _ _ rfl HOwn.out _ _ rfl (lgKey [x, y] (by simp)) ?_; intro c3 hat hwc; obtain rfl : c3 = (c2.toNat : Int) := by (have := hat.symm.trans f3; simpa using this))
                                      | (go_at_call 64; refine (HY.out).mono ?_; rintro e w5 ⟨⟨x, rfl⟩, hb3, hl3⟩))
                                    go_roundg l2.length
                                    case measure => have := hgl2.out; omega
                                    case rel => exact ⟨l2, t2, o ++ [c2], rfl, Lib.hid rfl, HE3, Lib.hid (by rw [← hot.out]; simp), hb3, by simp; omega, hbl.trans hl3⟩
                          · cases hes with
                            | nil => as_aux_lemma =>
                              have e1 : o = lgSep out ++ t := by simpa using hot.out
                              go_wp2_with fail
                              rw [Exit.noGoto_normal]
                              go_wp2_with fail
                              go_roundg ws2.length
                              case measure => have := HG2.out; omega
                              case rel => exact ⟨ws2, ts2, lgSep out ++ t, by rw [HR.out], rfl, e1 ▸ HBo.out, HN3, HJ3, HL3.out, hbelo⟩
                            | @chr c2 l2 t2 e1 e2 e3 => as_aux_lemma =>
                              have hx1 : (bs (c2 :: l2)).extract 1 (l2.length + 1) = bs l2 := bs_from (c2 :: l2) 1
                              have hp0 : 0 < (bs (c2 :: l2)).size := by rw [bs_size]; simp
                              simp only [List.length_cons] at hol
                              have hgl2 := hgl.out
                              simp only [List.length_cons] at hgl2
                              replace hgl2 := Lib.hid hgl2
                              have n36 : c2.toNat ≠ 36 := fun e => e1 (UInt8.toNat_inj.1 e)
                              have n46 : c2.toNat ≠ 46 := fun e => e2 (UInt8.toNat_inj.1 e)
                              have cb36 : ((c2.toNat : Int) == 36) = false := by simp; omega
                              have cb46 : ((c2.toNat : Int) == 46) = false := by simp; omega
                              have HY := Lib.hid (sbByte_any HBo.out c2 (by omega))
                              have HE3 := Lib.hid e3
                              clear n36 n46 h36 hgl e1 e2 e3
                              go_wp2_with (go_at_call 64; refine (HY.out).mono ?_; rintro e w3 ⟨⟨x, rfl⟩, hb3, hl3⟩)
                              go_roundg l2.length
                              case measure => have := hgl2.out; omega
                              case rel => exact ⟨l2, t2, o ++ [c2], rfl, Lib.hid rfl, HE3, Lib.hid (by rw [← hot.out]; simp), hb3, by simp; omega, hbelo.trans hl3⟩
                            | @dots l2 t2 e3 => as_aux_lemma =>
                              have hx1 : (bs (46 :: 46 :: l2)).extract 2 (l2.length + 1 + 1) = bs l2 := bs_from (46 :: 46 :: l2) 2
                              have hp0 : 0 < (bs (46 :: 46 :: l2)).size := by rw [bs_size]; simp
                              simp only [List.length_cons] at hol
                              have hgl2 := hgl.out
                              simp only [List.length_cons] at hgl2
                              replace hgl2 := Lib.hid hgl2
                              have cb : ((46 : UInt8).toNat : Int) = 46 := rfl
                              have HQ := Lib.hid (fun W => dotPre (l := l2) W)
                              have HW := Lib.hid (sbWrite_any HBo.out [58, 58] (by simp; omega))
                              have HE3 := Lib.hid e3
                              clear h36 hgl e3
                              go_wp2_with (first | (go_at_call 63; refine (HQ.out _).mono ?_; rintro e w3 ⟨rfl, rfl⟩) | (go_at_call 62; refine (HW.out).mono ?_; rintro e w3 ⟨⟨x, rfl⟩, hb3, hl3⟩))
                              go_roundg l2.length
                              case measure => have := hgl2.out; omega
                              case rel => exact ⟨l2, t2, o ++ [58, 58], rfl, Lib.hid rfl, HE3, Lib.hid (by rw [← hot.out]; simp), hb3, by simp; omega, hbelo.trans hl3⟩
                            | comma _ => exact absurd ⟨_, rfl⟩ h36
                            | hex _ _ _ _ _ => exact absurd ⟨_, rfl⟩ h36
                            | code _ _ => exact absurd ⟨_, rfl⟩ h36
end Go.Proofs.YtokjbdofpdncdaaDoor
