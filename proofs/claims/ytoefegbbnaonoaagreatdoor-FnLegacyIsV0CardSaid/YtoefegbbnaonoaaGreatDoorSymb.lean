/- The reference's paths: how they are written, and what they say. -/
import Derived.Test.YtoefegbbnaonoaaGreatDoorWritten
import Derived.Test.YtoefegbbnaonoaaGreatDoorPathP
import Derived.Test.YtoefegbbnaonoaaGreatDoorFmtUint
namespace Go.Proofs.YtoefegbbnaonoaaGreatDoor
open Go.RowKit Go.Lib
set_option linter.unusedVariables false
set_option maxRecDepth 100000

theorem encode_ascii {c : UInt8} (h : c.toNat < 128) : Utf8.encode (c.toNat : Int) = bs [c] := by
  have key : ((List.range 128).all fun n => decide (Utf8.encode (n : Int) = bs [UInt8.ofNat n])) = true := by kernel_rfl
  have := List.all_eq_true.1 key c.toNat (List.mem_range.2 h)
  have e := of_decide_eq_true this
  rw [e]
  simp

/-- The parts of a path in memory, from block g on. -/
def PartsAt (w : World) (g : Nat) (ps : List Part) : Prop :=
  g < w.heap.size ∧ ∀ i (h : i < ps.length), w.cell? ⟨g, i * 3, none⟩ = some (.int .u8 (ps[i].space.toNat : Int)) ∧ w.cell? ⟨g, i * 3 + 1, none⟩ = some (.string (bs ps[i].name)) ∧ w.cell? ⟨g, i * 3 + 2, none⟩ = some (.int .u64 (ps[i].dis : Int))
theorem PartsAt.below {w w' : World} {g : Nat} {ps : List Part} (h : PartsAt w g ps) (hb : Below w.heap.size w w') : PartsAt w' g ps := by
  refine ⟨Nat.lt_of_lt_of_le h.1 hb.size, fun i hi => ?_⟩
  obtain ⟨h1, h2, h3⟩ := h.2 i hi
  exact ⟨(hb.cell (p := ⟨g, i * 3, none⟩) h.1).trans h1, (hb.cell (p := ⟨g, i * 3 + 1, none⟩) h.1).trans h2, (hb.cell (p := ⟨g, i * 3 + 2, none⟩) h.1).trans h3⟩

attribute [local go_sem] bs_toList in
theorem idWritten_nil (w : World) :
    Calls Tryz.prog 36 #[.string (bs [])] w fun e w' => e = .returned (.string (bs [48, 95])) ∧ w = w' := by
  go_enter Tryz.func36, Tryz.ntmps36
  go_wp2
  go_ret
  exact ⟨rfl, rfl⟩

theorem between_len (l : List UInt8) : (between l).length ≤ 1 := by
  unfold between
  split
  · simp
  · split <;> simp
theorem writtenOf_len {l : List UInt8} (h : l.length ≤ 1000000) : (writtenOf l).length ≤ 1000020 := by
  unfold writtenOf
  split
  · simp
  · unfold counted
    have h1 := decDigits_len 9 l.length (by omega)
    have h2 := between_len l
    rw [List.length_append, List.length_append]
    omega
theorem ownOf_len {p : Part} (h : PartOk p) (last : Bool) : (ownOf last p).length ≤ 1000041 := by
  obtain ⟨_, h3, h4⟩ := h
  have h1 := disOf_length p.dis (by omega)
  have h2 := writtenOf_len h3.2
  unfold ownOf
  rw [List.length_append]
  split
  · simp; omega
  · omega

theorem idIdent_any {w : World} {B : Nat} (hp : Pow w B) {l : List UInt8} (hl : NameOk l) (d : Nat) (hd : d ≤ 4611686018427387904) :
    Calls Tryz.prog 26 #[.string (bs l), .int .u64 (d : Int)] w fun e w' => e = .returned (.string (bs (disOf d ++ writtenOf l))) ∧ Below w.heap.size w w' := by
  have HD := Lib.hid (dis_written d (by omega))
  have HW := Lib.hid (fun (W : World) (hW : w = W) => (show Calls Tryz.prog 36 #[.string (bs l)] W fun e w' => e = .returned (.string (bs (writtenOf l))) ∧ Below W.heap.size W w' from by
    subst hW
    by_cases h0 : l = []
    · subst h0
      refine (idWritten_nil w).mono ?_
      rintro e w' ⟨rfl, rfl⟩
      exact ⟨rfl, Below.refl _ _⟩
    · have := idWritten_any hp h0 hl.1 hl.2
      unfold writtenOf
      rw [if_neg h0]
      exact this))
  have h1 := disOf_length d (by omega)
  have h2 := writtenOf_len hl.2
  have ha : ∀ W, (Op.stringOp .add (bs (disOf d)) (bs (writtenOf l))).run Tryz.prog W = .ok (.string (bs (disOf d ++ writtenOf l))) W := add_bs _ _ (by omega)
  clear hp hl hd h1 h2
  go_enter Tryz.func26, Tryz.ntmps26
  go_wp2_with (first | (go_at_call 27; refine (HD.out _).mono ?_; rintro e w2 ⟨rfl, rfl⟩) | (go_at_call 36; refine (HW.out _ rfl).mono ?_; rintro e w2 ⟨rfl, hb2⟩))
  go_ret
  exact ⟨rfl, hb2⟩

theorem symR_len {crate : List UInt8} {cd : Nat} (hc : NameOk crate) (hd : cd ≤ 4611686018427387904) : ∀ (ps : List Part) (last : Bool), (∀ p ∈ ps, PartOk p) → (symR crate cd last ps).length ≤ 1000100 * (ps.length + 1) := by
  intro ps
  induction ps with
  | nil =>
    intro last h
    have h1 := disOf_length cd (by omega)
    have h2 := writtenOf_len hc.2
    simp only [symR, List.length_cons, List.length_append, List.length_nil]
    omega
  | cons p ps ih =>
    intro last h
    have := ih false (fun q hq => h q (List.mem_cons_of_mem _ hq))
    have h5 := ownOf_len (h p (List.mem_cons_self ..)) last
    simp only [symR, List.length_cons, List.length_append]
    omega

theorem Pow.keepB {w w' : World} {B : Nat} (h : Pow w B) (hb : Below w.heap.size w w') : Pow w' B := h.keep hb h.2.1

theorem space_small {p : Part} (h : PartOk p) : p.space.toNat < 128 := by
  have := h.1
  rw [Bool.or_eq_true] at this
  rcases this with h | h
  · have : 97 ≤ p.space.toNat ∧ p.space.toNat ≤ 122 := of_decide_eq_true h
    omega
  · have : 65 ≤ p.space.toNat ∧ p.space.toNat ≤ 90 := of_decide_eq_true h
    omega

theorem take_rev (ps : List Part) (k : Nat) (h : k < ps.length) : (ps.take (k + 1)).reverse = ps[k] :: (ps.take k).reverse := by
  rw [List.take_succ_eq_append_getElem h, List.reverse_append]
  rfl

/-- The text behind k parts. -/
def symK (crate : List UInt8) (cd : Nat) (ps : List Part) (k : Nat) : List UInt8 := symR crate cd (decide (k = ps.length)) (ps.take k).reverse

def SymRel (w : World) (g : Nat) (crate : List UInt8) (cd : Nat) (ps : List Part) (v u : Value) (m : Nat) (wr : World) : Prop :=
  ∃ k : Nat, u = .int .i64 (k : Int) ∧ k + m = ps.length ∧ v = .string (bs (symK crate cd ps k)) ∧ Below w.heap.size w wr

attribute [local go_sem] bs_size bs_toList in
set_option maxHeartbeats 2000000 in
theorem idSymbol_any {w : World} {B g cap : Nat} {crate : List UInt8} {cd : Nat} {ps : List Part} (hp : Pow w B) (hc : NameOk crate) (hd : cd ≤ 4611686018427387904) (hps : ∀ p ∈ ps, PartOk p) (hn : ps.length ≤ 1000) (hA : PartsAt w g ps) :
    Calls Tryz.prog 14 #[.string (bs crate), .int .u64 (cd : Int), .slice (some ⟨g, 0, none⟩) ps.length cap] w fun e w' => e = .returned (.string (bs (symR crate cd true ps.reverse))) ∧ Below w.heap.size w w' := by
  have HI := Lib.hid (idIdent_any hp hc cd hd)
  have h1 := disOf_length cd (by omega)
  have h2 := writtenOf_len hc.2
  have ha : ∀ W, (Op.stringOp .add ⟨#[67]⟩ (bs (disOf cd ++ writtenOf crate))).run Tryz.prog W = .ok (.string (bs (67 :: (disOf cd ++ writtenOf crate)))) W := add_bs [67] _ (by simp; omega)
  have HA := Lib.hid hA
  have HP := Lib.hid hps
  have HB := Lib.hid hp
  have HC := Lib.hid hc
  have hfin : symK crate cd ps ps.length = symR crate cd true ps.reverse := by unfold symK; simp
  have hst : symK crate cd ps 0 = 67 :: (disOf cd ++ writtenOf crate) := by unfold symK; simp [symR]
  replace hfin := Lib.hid hfin
  replace hst := Lib.hid hst
  clear h1 h2 hA hps hp hc
  go_enter Tryz.func14, Tryz.ntmps14
  go_wp2_with (go_at_call 26; refine (HI.out).mono ?_; rintro e w2 ⟨rfl, hb2⟩)
  go_loopg [7, 17] ps.length (fun m v u wr => SymRel w g crate cd ps v u m wr)
  case atStart => exact ⟨0, rfl, by omega, by rw [hst.out], hb2⟩
  case round =>
    clear hb2
    obtain ⟨k, rfl, hm, rfl, hb⟩ := hrel
    by_cases hk : k < ps.length
    · obtain ⟨c1, c2, c3⟩ := ((HA.out.below (hb)).2 k hk)
      have hpo := HP.out ps[k] (List.getElem_mem _)
      have hlk := symR_len HC.out hd (ps.take k).reverse (decide (k = ps.length)) (fun p hp => HP.out p (List.mem_of_mem_take (List.mem_reverse.1 hp)))
      rw [List.length_reverse, List.length_take] at hlk
      have hlk2 : (symK crate cd ps k).length ≤ 1001101000 := by unfold symK; omega
      have hnext : symK crate cd ps (k + 1) = 78 :: ps[k].space :: (symK crate cd ps k ++ ownOf (decide (k + 1 = ps.length)) ps[k]) := by
        unfold symK
        rw [take_rev ps k hk, decide_eq_false (show ¬ k = ps.length by omega)]
        rfl
      obtain ⟨p, hpk⟩ : ∃ p, ps[k] = p := ⟨_, rfl⟩
      rw [hpk] at c1 c2 c3 hpo hnext
      clear hpk hlk
      have HIp := Lib.hid (fun (W : World) (hW : Below w.heap.size w W) => idIdent_any (HB.out.keepB hW) hpo.2.1 p.dis hpo.2.2)
      have HDp := Lib.hid (dis_written p.dis (by have := hpo.2.2; omega))
      have hown := ownOf_len hpo (decide (k + 1 = ps.length))
      have henc := encode_ascii (space_small hpo)
      have hs128 := space_small hpo
      have hwr : IntKind.i32.wrap (p.space.toNat : Int) = (p.space.toNat : Int) := by simp only [IntKind.wrap_i32]; omega
      have hlt := Lib.hid (fun o => (show Below w.heap.size w (wr.alloc o) from hb.alloc hb.size o))
      have hw64 : wrap64 ((ps.length : Int) - 1) = (ps.length : Int) - 1 := by unfold wrap64; omega
      have t0 : (k : Int) < (ps.length : Int) := by omega
      have a1 : ∀ W, (Op.stringOp .add ⟨#[78]⟩ (bs [p.space])).run Tryz.prog W = .ok (.string (bs [78, p.space])) W := add_bs [78] _ (by simp)
      have a2 : ∀ W, (Op.stringOp .add (bs [78, p.space]) (bs (symK crate cd ps k))).run Tryz.prog W = .ok (.string (bs (78 :: p.space :: symK crate cd ps k))) W := add_bs [78, p.space] _ (by simp; omega)
      have a3 : ∀ W, (Op.stringOp .add (bs (78 :: p.space :: symK crate cd ps k)) (bs (ownOf (decide (k + 1 = ps.length)) p))).run Tryz.prog W = .ok (.string (bs (symK crate cd ps (k + 1)))) W := fun W => by
        rw [add_bs (78 :: p.space :: symK crate cd ps k) _ (by simp; omega) W, hnext]
        rfl
      by_cases he : p.name = [] ∧ k + 1 = ps.length
      · obtain ⟨he1, he2⟩ := he
        have e1 : ((k : Int) == (ps.length : Int) - 1) = true := by simp; omega
        have ho : ownOf (decide (k + 1 = ps.length)) p = disOf p.dis ++ [48] := by
          unfold ownOf
          rw [decide_eq_true he2, if_pos ⟨he1, rfl⟩]
        rw [ho] at a3 hown
        rw [he1] at c2 HIp
        have a4 : ∀ W, (Op.stringOp .add (bs (disOf p.dis)) ⟨#[48]⟩).run Tryz.prog W = .ok (.string (bs (disOf p.dis ++ [48]))) W := add_bs _ [48] (by simp at hown ⊢; omega)
        clear he1 he2 ho hnext hown hpo hlk2
        go_wp2_with (first
          | (go_at_call 26; refine (HIp.out _ (hlt.out _)).mono ?_; rintro e w2 ⟨rfl, hb2⟩; have d1 := (hb2.cell (p := ⟨wr.heap.size, 0, none⟩) (by simp)); have d2 := (hb2.cell (p := ⟨wr.heap.size, 1, none⟩) (by simp)); have d3 := (hb2.cell (p := ⟨wr.heap.size, 2, none⟩) (by simp)))
          | (go_at_call 27; refine (HDp.out _).mono ?_; rintro e w3 ⟨rfl, rfl⟩))
        go_roundg (ps.length - (k + 1))
        case measure => omega
        case rel => exact ⟨k + 1, by go_num, by omega, rfl, (hlt.out _).trans (hb2.mono (hlt.out _).size)⟩
      · have ho : ownOf (decide (k + 1 = ps.length)) p = disOf p.dis ++ writtenOf p.name := by
          unfold ownOf
          rw [if_neg (fun h => he ⟨h.1, of_decide_eq_true h.2⟩)]
        rw [ho] at a3
        have hcase : (p.name = [] ∧ ((k : Int) == (ps.length : Int) - 1) = false) ∨ (p.name.isEmpty = false ∧ (p.name == []) = false) := by
          by_cases h0 : p.name = []
          · left
            have : k + 1 ≠ ps.length := fun h => he ⟨h0, h⟩
            refine ⟨h0, ?_⟩
            simp
            omega
          · right
            refine ⟨?_, ?_⟩
            · cases hx : p.name with
              | nil => exact absurd hx h0
              | cons a b => rfl
            · simpa using h0
        clear ho hnext hown hpo hlk2 he
        rcases hcase with ⟨he1, e1⟩ | ⟨e1, e2⟩
        · rw [he1] at c2 HIp a3
          go_wp2_with (go_at_call 26; refine (HIp.out _ (hlt.out _)).mono ?_; rintro e w2 ⟨rfl, hb2⟩; have d1 := (hb2.cell (p := ⟨wr.heap.size, 0, none⟩) (by simp)); have d2 := (hb2.cell (p := ⟨wr.heap.size, 1, none⟩) (by simp)); have d3 := (hb2.cell (p := ⟨wr.heap.size, 2, none⟩) (by simp)))
          go_roundg (ps.length - (k + 1))
          case measure => omega
          case rel => exact ⟨k + 1, by go_num, by omega, rfl, (hlt.out _).trans (hb2.mono (hlt.out _).size)⟩
        · go_wp2_with (go_at_call 26; refine (HIp.out _ (hlt.out _)).mono ?_; rintro e w2 ⟨rfl, hb2⟩; have d1 := (hb2.cell (p := ⟨wr.heap.size, 0, none⟩) (by simp)); have d2 := (hb2.cell (p := ⟨wr.heap.size, 1, none⟩) (by simp)); have d3 := (hb2.cell (p := ⟨wr.heap.size, 2, none⟩) (by simp)))
          go_roundg (ps.length - (k + 1))
          case measure => omega
          case rel => exact ⟨k + 1, by go_num, by omega, rfl, (hlt.out _).trans (hb2.mono (hlt.out _).size)⟩
    · have hk2 : k = ps.length := by omega
      subst hk2
      have t0 : ¬ (ps.length : Int) < (ps.length : Int) := by omega
      go_wp2
      go_ret
      exact ⟨by rw [hfin.out]; rfl, hb⟩
end Go.Proofs.YtoefegbbnaonoaaGreatDoor
