/- The reference's paths: what they say. -/
import Derived.Test.YtoefegbbnaonoaaGreatDoorSymb
namespace Go.Proofs.YtoefegbbnaonoaaGreatDoor
open Go.RowKit Go.Lib
set_option linter.unusedVariables false
set_option maxRecDepth 100000

def textK (crate : List UInt8) (ps : List Part) (k : Nat) : List UInt8 := textR crate (ps.take k).reverse
theorem toldOf_len {p : Part} (h : PartOk p) : (toldOf p.space (p.dis : Int) p.name).length ≤ 1000100 := by
  obtain ⟨_, ⟨_, h3⟩, h4⟩ := h
  have h5 := decDigits_len 18 p.dis (by omega)
  have h6 := kindName_len p.space
  unfold toldOf
  split
  · simp only [List.length_append, List.length_cons, List.length_nil, Int.toNat_natCast]
    split
    · simp; omega
    · simp; omega
  · simp only [List.length_append, List.length_cons, List.length_nil]
    omega
theorem textR_len {crate : List UInt8} (hc : NameOk crate) : ∀ ps : List Part, (∀ p ∈ ps, PartOk p) → (textR crate ps).length ≤ 1000100 * (ps.length + 1) := by
  intro ps
  induction ps with
  | nil => intro _; have := hc.2; simp only [textR, List.length_nil]; omega
  | cons p ps ih =>
    intro h
    have h1 := ih (fun q hq => h q (List.mem_cons_of_mem _ hq))
    have h2 := toldOf_len (h p (List.mem_cons_self ..))
    simp only [textR, List.length_append, List.length_cons]
    omega
theorem textK_next (crate : List UInt8) (ps : List Part) (k : Nat) (h : k < ps.length) : textK crate ps (k + 1) = textK crate ps k ++ toldOf ps[k].space (ps[k].dis : Int) ps[k].name := by
  unfold textK
  rw [take_rev ps k h]
  rfl

def TextRel (w : World) (crate : List UInt8) (ps : List Part) (v u : Value) (m : Nat) (wr : World) : Prop :=
  ∃ k : Nat, u = .int .i64 (k : Int) ∧ k + m = ps.length ∧ v = .string (bs (textK crate ps k)) ∧ Below w.heap.size w wr

attribute [local go_sem] bs_size bs_toList in
set_option maxHeartbeats 4000000 in
theorem idText_any {w : World} {B g cap : Nat} {crate : List UInt8} {ps : List Part} (hp : Pow w B) (hc : NameOk crate) (hps : ∀ p ∈ ps, PartOk p) (hn : ps.length ≤ 1000) (hA : PartsAt w g ps) :
    Calls Tryz.prog 15 #[.string (bs crate), .slice (some ⟨g, 0, none⟩) ps.length cap] w fun e w' => e = .returned (.string (bs (textR crate ps.reverse))) ∧ Below w.heap.size w w' := by
  have HA := Lib.hid hA
  have HP := Lib.hid hps
  have HB := Lib.hid hp
  have HC := Lib.hid hc
  have hfin : textK crate ps ps.length = textR crate ps.reverse := by unfold textK; simp
  have hst : textK crate ps 0 = crate := by unfold textK; simp [textR]
  replace hfin := Lib.hid hfin
  replace hst := Lib.hid hst
  clear hA hps hp hc
  go_enter Tryz.func15, Tryz.ntmps15
  go_wp2_with fail
  go_loopg [5, 12] ps.length (fun m v u wr => TextRel w crate ps v u m wr)
  case atStart => exact ⟨0, rfl, by omega, by rw [hst.out], Below.refl _ _⟩
  case round =>
    obtain ⟨k, rfl, hm, rfl, hb⟩ := hrel
    by_cases hk : k < ps.length
    · obtain ⟨c1, c2, c3⟩ := ((HA.out.below (hb)).2 k hk)
      have hpo := HP.out ps[k] (List.getElem_mem _)
      have hlk := textR_len HC.out (ps.take k).reverse (fun p hp => HP.out p (List.mem_of_mem_take (List.mem_reverse.1 hp)))
      rw [List.length_reverse, List.length_take] at hlk
      have hlk2 : (textK crate ps k).length ≤ 1001101000 := by unfold textK; omega
      have hnext := textK_next crate ps k hk
      obtain ⟨p, hpk⟩ : ∃ p, ps[k] = p := ⟨_, rfl⟩
      rw [hpk] at c1 c2 c3 hpo hnext
      clear hpk hlk
      have htl := toldOf_len hpo
      have hnl := hpo.2.1.2
      have hs128 := space_small hpo
      have hlt := Lib.hid (fun o => (show Below w.heap.size w (wr.alloc o) from hb.alloc hb.size o))
      have t0 : (k : Int) < (ps.length : Int) := by omega
      by_cases hlow : 97 ≤ p.space.toNat
      · have t1 : 97 ≤ (p.space.toNat : Int) := by omega
        have hup : isUp p.space = false := decide_eq_false (by omega)
        have ht : toldOf p.space (p.dis : Int) p.name = [58, 58] ++ p.name := by unfold toldOf; rw [if_neg (by rw [hup]; simp)]
        obtain ⟨S1, hS1⟩ : ∃ X, [58, 58] ++ p.name = X := ⟨_, rfl⟩
        have a1 : ∀ W, (Op.stringOp .add ⟨#[58, 58]⟩ (bs p.name)).run Tryz.prog W = .ok (.string (bs S1)) W := fun W => by rw [← hS1]; exact add_bs [58, 58] _ (by simp; omega) W
        have a2 : ∀ W, (Op.stringOp .add (bs (textK crate ps k)) (bs S1)).run Tryz.prog W = .ok (.string (bs (textK crate ps (k + 1)))) W := fun W => by
          rw [hnext, ht, ← hS1]
          exact add_bs _ _ (by simp; omega) W
        clear hS1 hnext ht hup hlow htl hnl hpo hlk2 hs128
        go_wp2
        go_roundg (ps.length - (k + 1))
        case measure => omega
        case rel => exact ⟨k + 1, by go_num, by omega, rfl, hlt.out _⟩
      · have t1 : ¬ 97 ≤ (p.space.toNat : Int) := by omega
        have hup : isUp p.space = true := by
          have := hpo.1
          rw [Bool.or_eq_true] at this
          rcases this with h | h
          · have : 97 ≤ p.space.toNat ∧ p.space.toNat ≤ 122 := of_decide_eq_true h
            omega
          · exact h
        have henc := encode_ascii hs128
        have hwr : IntKind.i32.wrap (p.space.toNat : Int) = (p.space.toNat : Int) := by simp only [IntKind.wrap_i32]; omega
        have HF := Lib.hid (fun (W : World) (hW : Below w.heap.size w W) => fmtUint_any (HB.out.keepB hW) p.dis (by have := hpo.2.2; omega))
        have h5 := decDigits_len 18 p.dis (by have := hpo.2.2; omega)
        have h6 := kindName_len p.space
        obtain ⟨K, hK⟩ : ∃ K, kindName p.space = K := ⟨_, rfl⟩
        obtain ⟨M, hM⟩ : ∃ M, (if p.name = [] then [] else 58 :: p.name) = M := ⟨_, rfl⟩
        have hMl : M.length ≤ 1000001 := by
          rw [← hM]
          split
          · simp
          · simp; omega
        have ht : toldOf p.space (p.dis : Int) p.name = [58, 58, 123] ++ (K ++ M) ++ [35] ++ decDigits p.dis ++ [125] := by
          unfold toldOf
          rw [if_pos hup, hK, hM, Int.toNat_natCast]
          simp
        rw [hK] at h6
        obtain ⟨KM, hKM⟩ : ∃ X, K ++ M = X := ⟨_, rfl⟩
        obtain ⟨X1, hX1⟩ : ∃ X, [58, 58, 123] ++ KM = X := ⟨_, rfl⟩
        obtain ⟨X2, hX2⟩ : ∃ X, X1 ++ [35] = X := ⟨_, rfl⟩
        obtain ⟨X3, hX3⟩ : ∃ X, X2 ++ decDigits p.dis = X := ⟨_, rfl⟩
        obtain ⟨X4, hX4⟩ : ∃ X, X3 ++ [125] = X := ⟨_, rfl⟩
        have l0 : KM.length ≤ 1000010 := by rw [← hKM]; simp; omega
        have l1 : X1.length ≤ 1000013 := by rw [← hX1]; simp; omega
        have l2 : X2.length ≤ 1000014 := by rw [← hX2]; simp; omega
        have l3 : X3.length ≤ 1000034 := by rw [← hX3]; simp; omega
        have l4 : X4.length ≤ 1000035 := by rw [← hX4]; simp; omega
        rw [hKM, hX1, hX2, hX3, hX4] at ht
        have b1 : ∀ W, (Op.stringOp .add ⟨#[58, 58, 123]⟩ (bs KM)).run Tryz.prog W = .ok (.string (bs X1)) W := fun W => by rw [← hX1]; exact add_bs [58, 58, 123] _ (by simp; omega) W
        have b2 : ∀ W, (Op.stringOp .add (bs X1) ⟨#[35]⟩).run Tryz.prog W = .ok (.string (bs X2)) W := fun W => by rw [← hX2]; exact add_bs _ [35] (by simp; omega) W
        have b3 : ∀ W, (Op.stringOp .add (bs X2) (bs (decDigits p.dis))).run Tryz.prog W = .ok (.string (bs X3)) W := fun W => by rw [← hX3]; exact add_bs _ _ (by omega) W
        have b4 : ∀ W, (Op.stringOp .add (bs X3) ⟨#[125]⟩).run Tryz.prog W = .ok (.string (bs X4)) W := fun W => by rw [← hX4]; exact add_bs _ [125] (by simp; omega) W
        have b5 : ∀ W, (Op.stringOp .add (bs (textK crate ps k)) (bs X4)).run Tryz.prog W = .ok (.string (bs (textK crate ps (k + 1)))) W := fun W => by
          rw [hnext, ht]
          exact add_bs _ _ (by omega) W
        have bk : ∀ L : ByteArray, L = bs K → (M = [] → ∀ W, (Op.stringOp .add ⟨#[58, 58, 123]⟩ L).run Tryz.prog W = .ok (.string (bs X1)) W) ∧ (M = 58 :: p.name → ∀ W, (Op.stringOp .add L (bs (58 :: p.name))).run Tryz.prog W = .ok (.string (bs KM)) W) := by
          rintro L rfl
          refine ⟨fun h W => ?_, fun h W => ?_⟩
          · rw [h, List.append_nil] at hKM
            rw [← hX1, ← hKM]
            exact add_bs [58, 58, 123] _ (by simp; omega) W
          · rw [← hKM, h]
            exact add_bs _ _ (by simp; omega) W
        have bc : ∀ W, (Op.stringOp .add ⟨#[58]⟩ (bs p.name)).run Tryz.prog W = .ok (.string (bs (58 :: p.name))) W := add_bs [58] _ (by simp; omega)
        have kinds : (p.space = 67 ∧ (⟨#[99, 108, 111, 115, 117, 114, 101]⟩ : ByteArray) = bs K) ∨ (p.space = 83 ∧ (⟨#[115, 104, 105, 109]⟩ : ByteArray) = bs K) ∨ (((p.space.toNat : Int) == 67) = false ∧ ((p.space.toNat : Int) == 83) = false ∧ bs [p.space] = bs K) := by
          unfold kindName at hK
          by_cases k1 : p.space = 67
          · rw [if_pos k1] at hK
            exact .inl ⟨k1, by rw [← hK]; rfl⟩
          · rw [if_neg k1] at hK
            by_cases k2 : p.space = 83
            · rw [if_pos k2] at hK
              exact .inr (.inl ⟨k2, by rw [← hK]; rfl⟩)
            · rw [if_neg k2] at hK
              have e1 : p.space.toNat ≠ 67 := fun e => k1 (UInt8.toNat_inj.1 e)
              have e2 : p.space.toNat ≠ 83 := fun e => k2 (UInt8.toNat_inj.1 e)
              exact .inr (.inr ⟨by simp; omega, by simp; omega, by rw [hK]⟩)
        have names : (p.name = [] ∧ M = []) ∨ (p.name.isEmpty = false ∧ (p.name == []) = false ∧ (p.name != []) = true ∧ M = 58 :: p.name) := by
          by_cases h0 : p.name = []
          · rw [if_pos h0] at hM
            exact .inl ⟨h0, hM.symm⟩
          · rw [if_neg h0] at hM
            refine .inr ⟨?_, by simpa using h0, by simpa using h0, hM.symm⟩
            cases hx : p.name with
            | nil => exact absurd hx h0
            | cons a b => rfl
        clear hnext ht hup hlow htl hnl hpo hlk2 hs128 h5 h6 hK hM hMl hKM hX1 hX2 hX3 hX4 l0 l1 l2 l3 l4
        obtain ⟨sp, nm, ds⟩ := p
        simp only at *
        rcases kinds with ⟨rfl, hKK⟩ | ⟨rfl, hKK⟩ | ⟨k1, k2, hKK⟩
        all_goals
          obtain ⟨bk1, bk2⟩ := bk _ hKK
          replace hKK := Lib.hid hKK
          rcases names with ⟨rfl, hMM⟩ | ⟨n1, n2, n3, hMM⟩
          · have bkk := bk1 hMM
            clear bk bk1 bk2 hMM
            go_wp2_with (go_at_call 28; refine (HF.out _ (hlt.out _)).mono ?_; rintro e w2 ⟨rfl, hb2⟩)
            go_roundg (ps.length - (k + 1))
            case measure => omega
            case rel => exact ⟨k + 1, by go_num, by omega, rfl, (hlt.out _).trans (hb2.mono (hlt.out _).size)⟩
          · have bkk := bk2 hMM
            clear bk bk1 bk2 hMM
            go_wp2_with (go_at_call 28; refine (HF.out _ (hlt.out _)).mono ?_; rintro e w2 ⟨rfl, hb2⟩)
            go_roundg (ps.length - (k + 1))
            case measure => omega
            case rel => exact ⟨k + 1, by go_num, by omega, rfl, (hlt.out _).trans (hb2.mono (hlt.out _).size)⟩
    · have hk2 : k = ps.length := by omega
      subst hk2
      have t0 : ¬ (ps.length : Int) < (ps.length : Int) := by omega
      go_wp2
      go_ret
      exact ⟨by rw [hfin.out]; rfl, hb⟩
end Go.Proofs.YtoefegbbnaonoaaGreatDoor
