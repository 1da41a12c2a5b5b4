/- The writer of Punycode: the walk. -/
import Derived.Test.YteeodkmhelmedaaPunyW2
namespace Go.Proofs.Yteeodkmhelmedaa
open Go.RowKit Go.Lib Go.Proofs.YteeodkmhelmedaaW.PrintWords
set_option linter.unusedVariables false
set_option maxRecDepth 100000
attribute [local go_sem] bs_size bs_toList

def EncRel (w : World) (L : List Nat) (g : Nat) (st sm sf sn sd sb sx : Value) (wr : World) : Prop :=
  ∃ (D : List UInt8) (now delta bias nd id : Nat) (r : Int), st = .string (bs (preT (basL L) ++ D)) ∧ sm = .int .i64 ((ltF now L).length : Int) ∧ sf = .bool (decide (id = 0)) ∧ sn = .int .i64 (now : Int) ∧ sd = .int .i64 (delta : Int) ∧
    sb = .int .i64 (bias : Int) ∧ sx = .int .i64 r ∧ PunyNext L now r ∧ Hid (Dec (ltF 128 L) D nd id bias (ltF now L)) ∧ Hid (nd * ((ltF now L).length + 1) + id + delta = now * ((ltF now L).length + 1)) ∧
    bias ≤ 20000000000000 ∧ D.length ≤ 12 * (ltF now L).length ∧ (∀ c ∈ D, c ≠ 95) ∧ now + g = 1200000 ∧ Below w.heap.size w wr
def ScanRel (w : World) (L : List Nat) (now : Nat) (g : Nat) (st sm sf sd sb si : Value) (wr : World) : Prop :=
  ∃ (D : List UInt8) (p delta bias nd id : Nat), st = .string (bs (preT (basL L) ++ D)) ∧ sm = .int .i64 ((outP L now p).length : Int) ∧ sf = .bool (decide (id = 0)) ∧ sd = .int .i64 (delta : Int) ∧
    sb = .int .i64 (bias : Int) ∧ si = .int .i64 (p : Int) ∧ Hid (Dec (ltF 128 L) D nd id bias (outP L now p)) ∧ Hid (nd * ((outP L now p).length + 1) + id + delta = now * ((outP L now p).length + 1) + qP L now p) ∧
    bias ≤ 20000000000000 ∧ D.length ≤ 12 * (outP L now p).length ∧ (∀ c ∈ D, c ≠ 95) ∧ p + g = L.length ∧ Below w.heap.size w wr

set_option maxHeartbeats 4000000 in
theorem idPunycode_any {w : World} {g cap : Nat} {L : List Nat} (hr : ChRow w g cap L) (hL : L.length ≤ 1001) (hok : ∀ c ∈ L, ChOk c) :
    Calls Try.prog 12 #[.slice (some ⟨g, 0, none⟩) L.length cap] w fun e w' =>
      ∃ D, e = .returned (.string (bs (preT (basL L) ++ D))) ∧ Hid (pdec D.length D 128 0 72 (ltF 128 L) = some L) ∧ D.length ≤ 12012 ∧ (∀ c ∈ D, c ≠ 95) ∧ Below w.heap.size w w' := by
  have HR := Lib.hid hr
  have HOK := Lib.hid hok
  have hle := hr.le
  have HNx := Lib.hid (fun (W : World) (hW : Below w.heap.size w W) (least : Nat) => next_any (hr.below hW) hL least)
  clear hr hok
  go_enter Try.func12, Try.ntmps12
  go_upto_block 0 with fail
  go_cut [3] (fun s wc => s = .string (bs (basL L)) ∧ w = wc)
  case first =>
    go_wp2_with fail
    go_loopg [3, 16] L.length (fun gh s i wr => ∃ k : Nat, s = .string (bs (basL (L.take k))) ∧ i = .int .i64 (k : Int) ∧ k + gh = L.length ∧ w = wr)
    case atStart => exact ⟨0, rfl, rfl, by omega, rfl⟩
    case round =>
      obtain ⟨k, rfl, rfl, hg, rfl⟩ := hrel
      by_cases hk : k < L.length
      · have ck := HR.out.cell k hk
        have hmore := basL_snoc hk
        have hsz := basL_len (L.take k)
        rw [List.length_take] at hsz
        have hn := (HOK.out L[k] (List.getElem_mem _)).le
        obtain ⟨x, hx⟩ : ∃ x, L[k] = x := ⟨_, rfl⟩
        rw [hx] at ck hmore hn
        by_cases h128 : x < 128
        · rw [if_pos h128] at hmore
          have t0 : (x : Int) < 128 := by omega
          have hcv := conv_rune (x : Int)
          rw [encode_small h128] at hcv
          have hwr : IntKind.i32.wrap (x : Int) = (x : Int) := by rw [IntKind.wrap_i32]; omega
          generalize UInt8.ofNat x = d at *
          generalize basL (L.take k) = T at *
          replace hmore := Lib.hid hmore
          have ha : ∀ W, (Op.stringOp .add (bs T) (bs [d])).run Try.prog W = .ok (.string (bs (T ++ [d]))) W := add_bs T [d] (by simp; omega)
          clear hx h128
          go_wp2_with fail
          go_roundg (L.length - (k + 1))
          case measure => omega
          case rel => exact ⟨k + 1, by rw [hmore.out], by go_num, by omega, rfl⟩
        · rw [if_neg h128, List.append_nil] at hmore
          have t0 : ¬ (x : Int) < 128 := by omega
          replace hmore := Lib.hid hmore
          clear hx h128
          go_wp2_with fail
          go_roundg (L.length - (k + 1))
          case measure => omega
          case rel => exact ⟨k + 1, by rw [hmore.out], by go_num, by omega, rfl⟩
      · obtain rfl : k = L.length := by omega
        rw [List.take_length]
        go_wp2_with fail
        go_meet
        exact ⟨rfl, rfl⟩
  case rest =>
    obtain ⟨rfl, rfl⟩ := hcut
    have hbl := basL_len L
    have hbn : (ltF 128 L).length = (basL L).length := by rw [← basL_nat]; simp
    go_upto_if 31 with fail
    go_cut [3] (fun s wc => s = .string (bs (preT (basL L))) ∧ w = wc)
    case first =>
      by_cases hB : basL L = []
      · have t0 : (basL L).length = 0 := by rw [hB]; rfl
        have hp : Hid (preT (basL L) = basL L) := Lib.hid (by unfold preT; rw [if_pos hB, hB])
        clear hB hbn
        generalize basL L = B at *
        have t1 : ¬ 0 < B.length := by omega
        clear t0
        go_wp2
        go_meet
        exact ⟨by rw [hp.out], rfl⟩
      · have t0 : 0 < (basL L).length := List.length_pos_iff.2 hB
        have hp : Hid (preT (basL L) = basL L ++ [95]) := Lib.hid (by unfold preT; rw [if_neg hB])
        clear hB hbn
        generalize basL L = B at *
        have ha : ∀ W, (Op.stringOp .add (bs B) ⟨#[95]⟩).run Try.prog W = .ok (.string (bs (B ++ [95]))) W := add_bs B [95] (by simp; omega)
        go_wp2
        go_meet
        exact ⟨by rw [hp.out], rfl⟩
    case rest =>
      obtain ⟨rfl, rfl⟩ := hcut
      have hpl : (preT (basL L)).length ≤ 1002 := by
        unfold preT
        split
        · simp
        · simp; omega
      generalize hTT : preT (basL L) = T0 at *
      replace hTT := Lib.hid hTT
      rw [← hbn]
      clear hbn hbl
      go_wp2_with (go_at_call 19; refine (HNx.out _ (Below.refl _ _) 128).mono ?_; rintro e w2 ⟨r, rfl, hnx, hb2⟩)
      go_loopg [3, 6, 7, 8, 9, 10, 11] 1199872 (fun gh st sm sf sn sd sb sx wr => EncRel w L gh st sm sf sn sd sb sx wr)
      case atStart => exact ⟨[], 128, 0, 72, 128, 0, r, by rw [List.append_nil, hTT.out], rfl, rfl, rfl, rfl, rfl, rfl, hnx, Dec.start _, Lib.hid (by omega), by omega, by simp, by simp, by omega, hb2⟩
      case round =>
        obtain ⟨D, now, delta, bias, nd, id, r, rfl, rfl, rfl, rfl, rfl, rfl, rfl, hnx, hdec, hS, hbi, hDl, hD95, hg, hb⟩ := hrel
        rcases hnx with ⟨rfl, hall⟩ | ⟨n, rfl, hmem, hln, hmin⟩
        · have hall' := Lib.hid (ltF_all hall)
          clear hall
          go_wp2_with fail
          go_ret
          refine ⟨D, rfl, Lib.hid ?_, by have := List.length_filter_le (fun c => decide (c < now)) L; unfold ltF at hDl; omega, hD95, hb⟩
          have := hdec.out.end_
          rw [hall'.out] at this
          exact this
        · have hlt := ltF_next hmin hln
          have hn1 := (HOK.out n hmem).le
          have hsc := Lib.hid (HOK.out n hmem).scalar
          have hml := List.length_filter_le (fun c => decide (c < now)) L
          obtain ⟨m, hm⟩ : ∃ m, (ltF now L).length = m := ⟨_, rfl⟩
          have hmb : m ≤ 1001 := by rw [← hm]; exact Nat.le_trans hml hL
          obtain ⟨P, hP⟩ : ∃ P, (n - now) * (m + 1) = P := ⟨_, rfl⟩
          have hPb : P ≤ 1200000000 := by rw [← hP]; exact Nat.le_trans (Nat.mul_le_mul (by omega : n - now ≤ 1114111) (by omega : m + 1 ≤ 1002)) (by decide)
          have hPI : ((n : Int) - (now : Int)) * ((m : Int) + 1) = (P : Int) := by
            rw [← hP, show (n : Int) - (now : Int) = ((n - now : Nat) : Int) by omega]
            push_cast
            rfl
          have hdb : delta ≤ 1300000000 := by
            have h1 := hS.out
            rw [hm] at h1
            have h2 : now * (m + 1) ≤ 1200000 * 1002 := Nat.mul_le_mul (by omega) (by omega)
            omega
          have hS0 := Lib.hid (sum_next hm hS.out hP hln)
          have hdec0 := Lib.hid (show Dec (ltF 128 L) D nd id bias (outP L n 0) by rw [(outP_zero L n).1, hlt]; exact hdec.out)
          have hm0 : (outP L n 0).length = m := by rw [(outP_zero L n).1, hlt, hm]
          have hq0 := (outP_zero L n).2
          rw [hm] at hDl ⊢
          clear hmin hmem hml hm hS hdec hP hlt hnx
          go_wp2_with fail
          go_loopg [3, 6, 7, 9, 10, 53] L.length (fun gh st sm sf sd sb si wx => ScanRel w L n gh st sm sf sd sb si wx)
          case atStart => exact ⟨D, 0, delta + P, bias, nd, id, rfl, by rw [hm0], rfl, by push_cast; rfl, rfl, rfl, hdec0, Lib.hid (by rw [hm0, hq0]; exact hS0.out), hbi, by rw [hm0]; exact hDl, hD95, by omega, hb⟩
          case round =>
            clear hm0 hq0 hS0 hdec0 hDl hD95 hb hPI hPb hdb hbi
            rename World => wx
            obtain ⟨D2, p, de, bi, nd2, id2, rfl, rfl, rfl, rfl, rfl, rfl, hdec, hS, hbi, hDl, hD95, hgp, hb⟩ := hrel
            obtain ⟨M, hM⟩ : ∃ M, (outP L n p).length = M := ⟨_, rfl⟩
            have hol := outP_len L n p (by omega)
            rw [hM] at hol
            have hdb : de ≤ 1500000000 := by
              have h1 := hS.out
              rw [hM] at h1
              have h2 : n * (M + 1) ≤ 1114111 * 1002 := Nat.mul_le_mul hn1 (by omega)
              omega
            by_cases hp : p < L.length
            · have ck := (HR.out.below hb).cell p hp
              obtain ⟨c, hc⟩ : ∃ c, L[p] = c := ⟨_, rfl⟩
              rw [hc] at ck
              rcases Nat.lt_trichotomy c n with hlt | heq | hgt
              · have hst := Lib.hid (outP_lt hp (by rw [hc]; exact hlt))
                have t1 : (c : Int) < (n : Int) := by omega
                have t2 : ((c : Int) == (n : Int)) = false := by simp; omega
                replace hc := Lib.hid hc
                rw [hM]
                replace hM := Lib.hid hM
                clear hlt
                go_wp2_with fail
                go_roundg (L.length - (p + 1))
                case measure => omega
                case rel => exact ⟨D2, p + 1, de + 1, bi, nd2, id2, rfl, by rw [hst.out.1, hM.out], rfl, by push_cast; rfl, rfl, by go_num, by rw [hst.out.1]; exact hdec, Lib.hid (by rw [hst.out.1, hst.out.2]; have := hS.out; omega), hbi, by rw [hst.out.1]; exact hDl, hD95, by omega, hb⟩
              · subst heq
                have hst := Lib.hid (outP_eq hp hc)
                have t1 : ¬ (c : Int) < (c : Int) := by omega
                have t2 : ((c : Int) == (c : Int)) = true := by simp
                obtain ⟨E, hne, hEl, hE95, hread, hED⟩ := delta_any (de := de) (bi := bi) hdb hbi
                have HED := Lib.hid hED
                have HAd := Lib.hid (fun W : World => adapted_any (de := de) (m := M + 1) (decide (id2 = 0)) hdb (by omega) (by omega) W)
                have hpa := (adapt_eqE de (M + 1) (decide (id2 = 0)) 100000000000000 (by omega) (by omega) (by omega) (Nat.le_refl _)).2
                have hdec2 := Lib.hid (hdec.out.step hne hread (by rw [hM]; exact hol.2) hS.out hsc.out)
                have ha : ∀ W, (Op.stringOp .add (bs (preT (basL L) ++ D2)) (bs E)).run Try.prog W = .ok (.string (bs (preT (basL L) ++ (D2 ++ E)))) W := fun W => by rw [hTT.out, add_bs _ _ (by simp; omega) W, List.append_assoc]
                rw [hM] at hdec2 hDl
                rw [hM]
                have hM' := Lib.hid hM
                have h95 := Lib.hid (fun x (hx : x ∈ D2 ++ E) => (List.mem_append.1 hx).elim (hD95 x) (hE95 x))
                have hlen2 : (D2 ++ E).length ≤ 12 * (M + 1) := by simp; omega
                generalize padapt de (M + 1) (decide (id2 = 0)) = pa at *
                clear hc hdec hS hread hED hne hM hE95 hD95
                go_wp2_with (first
                  | (go_at_call 20; refine (HED.out _).mono ?_; rintro e w5 ⟨rfl, hb5⟩; replace hb5 := hb.trans (hb5.mono hb.size))
                  | (go_at_call 16; refine (HAd.out _).mono ?_; rintro e w6 ⟨rfl, hb6⟩; replace hb6 := hb5.trans (hb6.mono hb5.size)))
                go_roundg (L.length - (p + 1))
                case measure => omega
                case rel => exact ⟨D2 ++ E, p + 1, 0, pa, c, qP L c p + 1, rfl, by rw [hst.out.2.2, hM'.out]; push_cast; rfl, by simp, rfl, rfl, by go_num, by rw [hst.out.1]; exact hdec2, Lib.hid (by rw [hst.out.2.1]; omega), hpa, by rw [hst.out.2.2, hM'.out]; exact hlen2, h95.out, by omega, hb6⟩
              · have hst := Lib.hid (outP_gt hp (by rw [hc]; exact hgt))
                have t1 : ¬ (c : Int) < (n : Int) := by omega
                have t2 : ((c : Int) == (n : Int)) = false := by simp; omega
                replace hc := Lib.hid hc
                rw [hM]
                replace hM := Lib.hid hM
                clear hgt
                go_wp2_with fail
                go_roundg (L.length - (p + 1))
                case measure => omega
                case rel => exact ⟨D2, p + 1, de, bi, nd2, id2, rfl, by rw [hst.out.1, hM.out], rfl, rfl, rfl, by go_num, by rw [hst.out.1]; exact hdec, Lib.hid (by rw [hst.out.1, hst.out.2]; exact hS.out), hbi, by rw [hst.out.1]; exact hDl, hD95, by omega, hb⟩
            · obtain rfl : p = L.length := by omega
              have hend := Lib.hid (outP_end L n)
              have hS2 := Lib.hid (sum_end hM hend.out.2 hS.out)
              rw [hM]
              have hM' := Lib.hid hM
              have hlen1 : (ltF (n + 1) L).length = M := by rw [← hend.out.1, hM]
              rw [hM] at hDl
              replace hlen1 := Lib.hid hlen1
              clear hM hS
              go_wp2_with (go_at_call 19; refine (HNx.out _ hb (n + 1)).mono ?_; rintro e w7 ⟨r7, rfl, hnx7, hb7⟩; replace hb7 := hb.trans (hb7.mono hb.size))
              go_roundg (1200000 - (n + 1))
              case measure => omega
              case rel => exact ⟨D2, n + 1, de + 1, bi, nd2, id2, r7, rfl, by rw [hlen1.out], rfl, by push_cast; rfl, by push_cast; rfl, rfl, rfl, hnx7, by rw [← hend.out.1]; exact hdec, Lib.hid (by rw [hlen1.out]; exact hS2.out), hbi, by rw [hlen1.out]; exact hDl, hD95, by omega, hb7⟩
end Go.Proofs.Yteeodkmhelmedaa
