/- LawTwo, LawEscape, OldFew, LgE, LgN, LgR, LgEs, LawHash, in one text. -/
import Derived.Test.YtokjbdofpdncdaaDoorLgGate
import Derived.Test.YtokjbdofpdncdaaDoorLaid
import Derived.Test.YtokjbdofpdncdaaDoorSpecB62
import Derived.Test.YtokjbdofpdncdaaDoorOld
import Derived.Test.YtokjbdofpdncdaaDoorPlgEscapedx2
import Derived.Test.YtokjbdofpdncdaaDoorPlgEscapedx3
import Derived.Deep.RegionWith
import Derived.Test.YtokjbdofpdncdaaDoorPzzFits3x1
import Derived.Maps.AppendAt
import Derived.Deep.Matrix
namespace Go.Proofs.YtokjbdofpdncdaaDoor
open Go.RowKit Go.Lib
set_option linter.unusedVariables false
set_option maxRecDepth 100000
attribute [local go_sem] bs_size bs_toList

theorem strs_two (W : World) (x y : List UInt8) : StrsAt (W.alloc (.cells #[.string (bs x), .string (bs y)] 9)) (.slice (some ⟨W.heap.size, 0, none⟩) 2 2) [x, y] := by
  refine ⟨some ⟨W.heap.size, 0, none⟩, 2, rfl, Nat.le_refl _, by unfold maxLen; decide, .inr ⟨W.heap.size, 0, rfl, by simp, fun i hi => ?_⟩⟩
  rw [Nat.zero_add, (Blk.new W 9 #[.string (bs x), .string (bs y)]).cell]
  match i, hi with
  | 0, _ => rfl
  | 1, _ => rfl
theorem strs_one (W : World) (x : List UInt8) : StrsAt (W.alloc (.cells #[.string (bs x)] 9)) (.slice (some ⟨W.heap.size, 0, none⟩) 1 1) [x] := by
  refine ⟨some ⟨W.heap.size, 0, none⟩, 1, rfl, Nat.le_refl _, by unfold maxLen; decide, .inr ⟨W.heap.size, 0, rfl, by simp, fun i hi => ?_⟩⟩
  rw [Nat.zero_add, (Blk.new W 9 #[.string (bs x)]).cell]
  match i, hi with
  | 0, _ => rfl

end Go.Proofs.YtokjbdofpdncdaaDoor
namespace Go.Proofs.YtokjbdofpdncdaaDoor
open Go.RowKit Go.Lib
set_option linter.unusedVariables false
set_option maxRecDepth 100000
attribute [local go_sem] bs_size bs_toList

/-- The escapes, as they are written and as they are told. -/
def escTab : List (List UInt8 × List UInt8) :=
  [([36, 83, 80, 36], [64]), ([36, 66, 80, 36], [42]), ([36, 82, 70, 36], [38]), ([36, 76, 84, 36], [60]), ([36, 71, 84, 36], [62]), ([36, 76, 80, 36], [40]), ([36, 82, 80, 36], [41]), ([36, 67, 36], [44]),
   ([36, 117, 50, 48, 36], [32]), ([36, 117, 50, 50, 36], [34]), ([36, 117, 50, 55, 36], [39]), ([36, 117, 50, 98, 36], [43]), ([36, 117, 51, 98, 36], [59]), ([36, 117, 53, 98, 36], [91]), ([36, 117, 53, 100, 36], [93]),
   ([36, 117, 55, 98, 36], [123]), ([36, 117, 55, 100, 36], [125]), ([36, 117, 55, 101, 36], [126]), ([46, 46], [58, 58])]
def escW (k : Nat) : List UInt8 := (escTab.getD k ([], [])).1
def escT (k : Nat) : List UInt8 := (escTab.getD k ([], [])).2
theorem esc_esc {k : Nat} (h : k < 19) : EscTo (escW k) (escT k) := by
  have hk : k = 0 ∨ k = 1 ∨ k = 2 ∨ k = 3 ∨ k = 4 ∨ k = 5 ∨ k = 6 ∨ k = 7 ∨ k = 8 ∨ k = 9 ∨ k = 10 ∨ k = 11 ∨ k = 12 ∨ k = 13 ∨ k = 14 ∨ k = 15 ∨ k = 16 ∨ k = 17 ∨ k = 18 := by omega
  rcases hk with rfl | rfl | rfl | rfl | rfl | rfl | rfl | rfl | rfl | rfl | rfl | rfl | rfl | rfl | rfl | rfl | rfl | rfl | rfl
  · exact .code (by decide) .nil
  · exact .code (by decide) .nil
  · exact .code (by decide) .nil
  · exact .code (by decide) .nil
  · exact .code (by decide) .nil
  · exact .code (by decide) .nil
  · exact .code (by decide) .nil
  · exact .comma .nil
  · exact .hex (a := 2) (b := 0) (by decide) (by decide) (by decide) (by decide) .nil
  · exact .hex (a := 2) (b := 2) (by decide) (by decide) (by decide) (by decide) .nil
  · exact .hex (a := 2) (b := 7) (by decide) (by decide) (by decide) (by decide) .nil
  · exact .hex (a := 2) (b := 11) (by decide) (by decide) (by decide) (by decide) .nil
  · exact .hex (a := 3) (b := 11) (by decide) (by decide) (by decide) (by decide) .nil
  · exact .hex (a := 5) (b := 11) (by decide) (by decide) (by decide) (by decide) .nil
  · exact .hex (a := 5) (b := 13) (by decide) (by decide) (by decide) (by decide) .nil
  · exact .hex (a := 7) (b := 11) (by decide) (by decide) (by decide) (by decide) .nil
  · exact .hex (a := 7) (b := 13) (by decide) (by decide) (by decide) (by decide) .nil
  · exact .hex (a := 7) (b := 14) (by decide) (by decide) (by decide) (by decide) .nil
  · exact .dots .nil
theorem esc_len {k : Nat} (h : k < 19) : (escW k).length ≤ 5 ∧ (escT k).length ≤ 2 := by
  have : ∀ j, j < 19 → (escW j).length ≤ 5 ∧ (escT j).length ≤ 2 := by decide +kernel
  exact this k h
def escCells : Array Value := (escTab.flatMap fun p => [Value.string (bs p.1), Value.string (bs p.2)]).toArray
theorem escCells_at {k : Nat} (h : k < 19) : escCells[k * 2]? = some (.string (bs (escW k))) ∧ escCells[k * 2 + 1]? = some (.string (bs (escT k))) := by
  have hk : k = 0 ∨ k = 1 ∨ k = 2 ∨ k = 3 ∨ k = 4 ∨ k = 5 ∨ k = 6 ∨ k = 7 ∨ k = 8 ∨ k = 9 ∨ k = 10 ∨ k = 11 ∨ k = 12 ∨ k = 13 ∨ k = 14 ∨ k = 15 ∨ k = 16 ∨ k = 17 ∨ k = 18 := by omega
  rcases hk with rfl | rfl | rfl | rfl | rfl | rfl | rfl | rfl | rfl | rfl | rfl | rfl | rfl | rfl | rfl | rfl | rfl | rfl | rfl <;> exact ⟨rfl, rfl⟩
theorem lgEscapes_any (w : World) : Calls Tryd.prog 33 #[] w fun e w' => e = .returned (.slice (some ⟨w.heap.size, 0, none⟩) 19 19) ∧ w' = w.alloc (.cells escCells 78) := by
  go_enter Tryd.func33, Tryd.ntmps33
  go_wp2
  go_ret
  exact ⟨rfl, by kernel_rfl⟩
theorem name_esc {X1 X2 : List UInt8} {k : Nat} (h : k < 19) (h1 : ∃ c t, X1 = c :: t ∧ isDig c = false ∧ c ≠ 95) (b1 : ∀ c ∈ X1, c ≠ 36 ∧ c ≠ 46) (b2 : ∀ c ∈ X2, c ≠ 36 ∧ c ≠ 46) : NameTo (X1 ++ escW k ++ X2) (X1 ++ escT k ++ X2) := by
  have he := ((EscTo.word b1).append (esc_esc h)).append (EscTo.word b2)
  obtain ⟨c, t, rfl, hd, h95⟩ := h1
  exact .plain hd h95 he

end Go.Proofs.YtokjbdofpdncdaaDoor
namespace Go.Proofs.YtokjbdofpdncdaaDoor
open Go.RowKit Go.Lib Go.Maps Go.WideMaps
set_option linter.unusedVariables false
set_option maxRecDepth 100000
attribute [local go_sem] bs_size bs_get0

set_option maxHeartbeats 4000000 in
theorem old_few {w : World} {B h : List UInt8} (hh1 : h.length = 16) (hh2 : ∀ c ∈ h, hexLo c = some (hexV c)) (hh3 : pop16 (maskH h) < 5) (hBl : B.length ≤ 300000000) :
    Calls Tryd.prog 36 #[.string (bs (95 :: 90 :: 78 :: (B ++ (49 :: 55 :: 104 :: (h ++ [69]))))), .slice none 0 0] w fun e w' =>
      e = .returned (.tuple #[.string (bs []), .bool false]) ∧ Below w.heap.size w w' := by
  have hmf : ∀ (fn : Fn) (first cap : Array Value) (w : World), (Instr.makeFunc fn first cap).run Tryd.prog w = .ok (.func fn first cap) w := fun _ _ _ _ => rfl
  obtain ⟨R, hR⟩ : ∃ R, B ++ (49 :: 55 :: 104 :: (h ++ [69])) = R := ⟨_, rfl⟩
  have hRl : R.length = B.length + 20 := by rw [← hR]; simp; omega
  have hx3 : (bs (95 :: 90 :: 78 :: R)).extract 3 (B.length + 20 + 1 + 1 + 1) = bs R := by
    have := bs_from (95 :: 90 :: 78 :: R) 3
    rw [← hRl]
    exact this
  have hget : ∀ (k : Nat) (hk : k < 16) (hp : B.length + 3 + k < (bs R).size), (bs R)[B.length + 3 + k]'hp = h[k]'(by omega) := by
    intro k hk hp
    rw [bs_get]
    subst hR
    rw [List.getElem_append_right (by omega)]
    have e : B.length + 3 + k - B.length = k + 1 + 1 + 1 := by omega
    simp only [e, List.getElem_cons_succ]
    rw [List.getElem_append_left (by omega)]
  have hx4 : (bs R).extract 0 B.length = bs B := by rw [bs_to, ← hR]; simp
  rw [hR]
  have HH := Lib.hid hh2
  have HG := Lib.hid hget
  clear hh2 hget hR
  go_enter Tryd.func36, Tryd.ntmps36
  go_wp2_with fail
  go_loop [6, 31] (fun m i => m = .int .i64 0 ∧ i = .int .i64 0) (fun _ _ => 0)
  case atStart => exact ⟨rfl, rfl⟩
  case round =>
    obtain ⟨rfl, rfl⟩ := hrel
    go_wp2_with fail
    go_loopg [10, 11] 16 (fun g s i wr => ∃ k : Nat, s = .int .u16 (maskH (h.take k) : Int) ∧ i = .int .i64 ((B.length : Int) + 3 + (k : Int)) ∧ k + g = 16 ∧ w = wr)
    case atStart => exact ⟨0, rfl, by go_num, by omega, rfl⟩
    case round =>
      obtain ⟨k, rfl, rfl, hg, rfl⟩ := hrel
      by_cases hk : k < 16
      · have hkl : k < h.length := by omega
        have hp : B.length + 3 + k < (bs R).size := by rw [bs_size]; omega
        have hgk := HG.out k hk hp
        have hlo := HH.out h[k] (List.getElem_mem _)
        have hm1 : maskH (h.take (k + 1)) = maskH (h.take k) ||| 2 ^ hexV h[k] := by
          rw [List.take_succ_eq_append_getElem hkl, maskH_snoc]
        have hv := hexV_lt h[k]
        have hml := maskH_lt (h.take k)
        generalize h[k] = c at *
        have HD := Lib.hid (fun W => hexDigit_any hlo W)
        generalize hexV c = d at *
        clear hx3 hx4 hlo
        go_wp2_with (go_at_call 58; refine (HD.out _).mono ?_; rintro e w2 ⟨rfl, rfl⟩)
        go_roundg (16 - (k + 1))
        case measure => omega
        case rel => exact ⟨k + 1, by rw [or_pow hml hv, hm1], by go_num, by omega, rfl⟩
      · obtain rfl : k = 16 := by omega
        have ht : h.take 16 = h := List.take_of_length_le (by omega)
        have HO := Lib.hid (ones_any (maskH h) (maskH_lt h))
        rw [ht]
        have h5 : (pop16 (maskH h) : Int) < 5 := by omega
        clear hh1 hh3 HH HG ht
        go_wp2_with (go_at_call 59; refine (HO.out _).mono ?_; rintro e w2 ⟨rfl, m, rfl⟩)
        go_ret2
        exact ⟨rfl, below_drewN (Below.refl _ _) m⟩
end Go.Proofs.YtokjbdofpdncdaaDoor
namespace Go.Proofs.YtokjbdofpdncdaaDoor
open Go.RowKit Go.Proofs.YtokjbdofpdncdaaDoor.PlgEscaped Go.Proofs.YtokjbdofpdncdaaDoorW.PrintWords Go.Proofs.YtokjbdofpdncdaaDoorW.PrintLast Go.Proofs.YtokjbdofpdncdaaDoorW.PrintMore
set_option linter.unusedVariables false

theorem g64 {x : Int} (h0 : 0 ≤ x) (h1 : x ≤ 9000000000000000000) : wrap64 x = x := by unfold wrap64; omega
def wtab : List UInt8 := [97, 98, 99, 100, 101, 102, 103, 104, 105, 106, 107, 108, 109, 110, 111, 112, 113, 114, 115, 116, 117, 118, 119, 120, 121, 122, 65, 66, 67, 68, 69, 70, 71, 72, 73, 74, 75, 76, 77, 78, 79, 80, 81, 82, 83, 84, 85, 86, 87, 88, 89, 90, 48, 49, 50, 51, 52, 53, 54, 55, 56, 57, 95]
def wat (j : Nat) : UInt8 := wtab.getD j 0
theorem wat_bt : ∀ j : Nat, j < 63 → bt (⟨#[97, 98, 99, 100, 101, 102, 103, 104, 105, 106, 107, 108, 109, 110, 111, 112, 113, 114, 115, 116, 117, 118, 119, 120, 121, 122, 65, 66, 67, 68, 69, 70, 71, 72, 73, 74, 75, 76, 77, 78, 79, 80, 81, 82, 83, 84, 85, 86, 87, 88, 89, 90, 48, 49, 50, 51, 52, 53, 54, 55, 56, 57, 95]⟩ : ByteArray) (j : Int) = ((wat j).toNat : Int) := by decide +kernel
theorem wat_head : ∀ j : Nat, j < 52 → isDig (wat j) = false ∧ wat j ≠ 95 ∧ wat j ≠ 36 ∧ wat j ≠ 46 := by decide +kernel
theorem wat_tail : ∀ j : Nat, j < 62 → wat j ≠ 36 ∧ wat j ≠ 46 := by decide +kernel
theorem nums_one (c : UInt8) : strOfNums [(c.toNat : Int)] = bs [c] := by
  unfold strOfNums
  simp [bs]
theorem nums_two (c d : UInt8) : strOfNums [(c.toNat : Int), (d.toNat : Int)] = bs [c, d] := by
  unfold strOfNums
  simp [bs]
theorem tm (a m : Nat) : Int.tmod (a : Int) (m : Int) = ((a % m : Nat) : Int) := rfl
theorem word_one (a : Nat) (ha : a < 256) (k : Nat) (hk : 5 ≤ k) : spec_AnWord.f k [(a : Int)] = some (bs [wat (a % 52)]) := by
  obtain ⟨k, rfl⟩ : ∃ j, k = j + 2 := ⟨k - 2, by omega⟩
  have e1 : wrap64 (a : Int) = (a : Int) := g64 (by omega) (by omega)
  have t1 : Int.tmod (a : Int) 62 = ((a % 62 : Nat) : Int) := rfl
  have t2 : Int.tmod (a : Int) 52 = ((a % 52 : Nat) : Int) := rfl
  have b1 : a % 62 < 62 := Nat.mod_lt _ (by decide)
  have b2 : a % 52 < 52 := Nat.mod_lt _ (by decide)
  have r0 : rd [(a : Int)] 0 = (a : Int) := rfl
  have w1 : wrap64 (0 + 1) = 1 := g64 (by decide) (by decide)
  unfold spec_AnWord.f
  rw [if_neg (by simp), if_pos (by simp), if_pos (by simp)]
  rw [spec_AnWord.l0, if_pos (by simp), if_pos (by decide), if_pos (by simp), r0, e1, t1, if_pos (by omega), if_pos (by omega), if_pos (by simp), w1]
  rw [spec_AnWord.l0, if_neg (by simp), if_pos (by simp), r0, e1, t2, if_pos (by omega), if_pos (by omega), if_pos (by simp), wat_bt (a % 62) (by omega), wat_bt (a % 52) (by omega)]
  exact congrArg some (nums_one _)
theorem word_two (a b : Nat) (ha : a < 256) (hb : b < 256) (k : Nat) (hk : 5 ≤ k) : spec_AnWord.f k [(a : Int), (b : Int)] = some (bs [wat (a % 52), wat (b % 62)]) := by
  obtain ⟨k, rfl⟩ : ∃ j, k = j + 3 := ⟨k - 3, by omega⟩
  have e1 : wrap64 (a : Int) = (a : Int) := g64 (by omega) (by omega)
  have e2 : wrap64 (b : Int) = (b : Int) := g64 (by omega) (by omega)
  have t1 : Int.tmod (a : Int) 62 = ((a % 62 : Nat) : Int) := rfl
  have t2 : Int.tmod (a : Int) 52 = ((a % 52 : Nat) : Int) := rfl
  have t3 : Int.tmod (b : Int) 62 = ((b % 62 : Nat) : Int) := rfl
  have b1 : a % 62 < 62 := Nat.mod_lt _ (by decide)
  have b2 : a % 52 < 52 := Nat.mod_lt _ (by decide)
  have b3 : b % 62 < 62 := Nat.mod_lt _ (by decide)
  have r0 : rd [(a : Int), (b : Int)] 0 = (a : Int) := rfl
  have r1 : rd [(a : Int), (b : Int)] 1 = (b : Int) := rfl
  have w1 : wrap64 (0 + 1) = 1 := g64 (by decide) (by decide)
  have w2 : wrap64 (1 + 1) = 2 := g64 (by decide) (by decide)
  unfold spec_AnWord.f
  rw [if_neg (by simp), if_pos (by simp), if_pos (by simp)]
  rw [spec_AnWord.l0, if_pos (by simp), if_pos (by decide), if_pos (by simp), r0, e1, t1, if_pos (by omega), if_pos (by omega), if_pos (by simp), w1]
  rw [spec_AnWord.l0, if_pos (by simp), if_pos (by decide), if_pos (by simp), r1, e2, t3, if_pos (by omega), if_pos (by omega), if_pos (by simp), w2]
  rw [spec_AnWord.l0, if_neg (by simp), if_pos (by simp), r0, e1, t2, if_pos (by omega), if_pos (by omega), if_pos (by simp), wat_bt (a % 62) (by omega), wat_bt (a % 52) (by omega), wat_bt (b % 62) (by omega)]
  exact congrArg some (nums_two _ _)

theorem two_bytes (n : Nat) : ∃ a b : Nat, a < 256 ∧ b < 256 ∧ ((n : Int)) % 256 = (a : Int) ∧ (n : Int) / 256 % 256 = (b : Int) :=
  ⟨n % 256, n / 256 % 256, Nat.mod_lt _ (by decide), Nat.mod_lt _ (by decide), by omega, by omega⟩
theorem forty (n : Nat) (h : n < 1099511627776) : ∃ m : Nat, wrap64 (Int.tdiv (n : Int) 40) = (m : Int) := ⟨n / 40, by
  rw [show Int.tdiv (n : Int) 40 = ((n / 40 : Nat) : Int) from rfl]
  exact g64 (by omega) (by omega)⟩
theorem parity (n : Nat) : (wrap64 (1 + Int.tmod (n : Int) 2) = 1) ∨ (wrap64 (1 + Int.tmod (n : Int) 2) = 2) := by
  rw [show Int.tmod (n : Int) 2 = ((n % 2 : Nat) : Int) from rfl]
  have : n % 2 = 0 ∨ n % 2 = 1 := by omega
  rcases this with h | h <;> rw [h]
  · exact .inl (g64 (by decide) (by decide))
  · exact .inr (g64 (by decide) (by decide))
/-- A piece that is made. -/
def PieceOk (p : S76) : Prop := (p.f0 = -1 ∧ ∃ c t, p.f1 = bs (c :: t) ∧ isDig c = false ∧ c ≠ 95 ∧ (∀ x ∈ c :: t, x ≠ 36 ∧ x ≠ 46) ∧ t.length ≤ 1) ∨ (∃ k : Nat, k < 19 ∧ p.f0 = (k : Int) ∧ p.f1 = ⟨#[]⟩)
theorem at_eq (z : Int) (m : Nat) (h0 : -9223372036854775808 ≤ z) (h1 : z ≤ 9223372036854775807) (hm : 0 < m) (hm2 : m ≤ 1099511627776) : ∃ n : Nat, laws_idAt.f z (m : Int) = some (n : Int) ∧ n < m := by
  unfold laws_idAt.f
  rw [if_neg (by omega)]
  have h2 := Int.tmod_lt_of_pos z (show (0 : Int) < (m : Int) by omega)
  have h3 := Int.tmod_lt_of_pos (-z) (show (0 : Int) < (m : Int) by omega)
  rw [Int.neg_tmod] at h3
  obtain ⟨x, hx⟩ : ∃ x, Int.tmod z (m : Int) = x := ⟨_, rfl⟩
  rw [hx] at h2 h3 ⊢
  have e1 : wrap64 (x + (m : Int)) = x + (m : Int) := by unfold wrap64; omega
  rw [e1, Int.tmod_eq_emod_of_nonneg (by omega)]
  have h4 := Int.emod_nonneg (x + (m : Int)) (show (m : Int) ≠ 0 by omega)
  have h5 := Int.emod_lt_of_pos (x + (m : Int)) (show (0 : Int) < (m : Int) by omega)
  exact ⟨((x + (m : Int)) % (m : Int)).toNat, by congr 1; omega, by omega⟩
theorem pieces_eq (zs : List Int) (hz : ∀ z ∈ zs, -9223372036854775808 ≤ z ∧ z ≤ 9223372036854775807) (hl : zs.length ≤ 9223372036854775807) : ∀ (j i k : Nat) (acc : List S76), i + j = zs.length → j + 6 < k → acc.length = i → i ≤ 1000 → (∀ p ∈ acc, PieceOk p) →
    ∃ r, laws_lgPieces.l0 k acc zs (zs.length : Int) (i : Int) = some r ∧ r.length ≤ 1000 ∧ ∀ p ∈ r, PieceOk p
  | 0, i, k, acc, h1, h2, h3, h4, h5 => by
    obtain ⟨k, rfl⟩ : ∃ j, k = j + 1 := ⟨k - 1, by omega⟩
    rw [laws_lgPieces.l0, if_neg (by omega)]
    exact ⟨acc, rfl, by omega, h5⟩
  | j + 1, i, k, acc, h1, h2, h3, h4, h5 => by
    obtain ⟨k, rfl⟩ : ∃ j, k = j + 1 := ⟨k - 1, by omega⟩
    have hi : i < zs.length := by omega
    have hrd : rd zs (i : Int) = zs[i] := by unfold rd; simp [hi]
    rw [laws_lgPieces.l0, if_pos (by omega), if_pos (by omega), if_pos (by omega)]
    by_cases hbig : 1000 ≤ i
    · rw [if_pos (by omega)]
      exact ⟨acc, rfl, by omega, h5⟩
    · rw [if_neg (by omega), hrd]
      have hw := hz zs[i] (List.getElem_mem _)
      obtain ⟨kind, hk, hk40⟩ := at_eq zs[i] 40 hw.1 hw.2 (by decide) (by decide)
      obtain ⟨big, hb, hb40⟩ := at_eq zs[i] 1099511627776 hw.1 hw.2 (by decide) (by decide)
      have hk' : laws_idAt.f zs[i] 40 = some (kind : Int) := hk
      have hb' : laws_idAt.f zs[i] 1099511627776 = some (big : Int) := hb
      have e1 : wrap64 ((i : Int) + 1) = ((i + 1 : Nat) : Int) := by rw [g64 (by omega) (by omega)]; push_cast; rfl
      have hacc : acc.length < 5864062014805 := by omega
      have go : ∀ p : S76, PieceOk p → ∃ r, laws_lgPieces.l0 k (acc ++ [p]) zs (zs.length : Int) (wrap64 ((i : Int) + 1)) = some r ∧ r.length ≤ 1000 ∧ ∀ p ∈ r, PieceOk p := fun p hp => by
        rw [e1]
        exact pieces_eq zs hz hl j (i + 1) k (acc ++ [p]) (by omega) (by omega) (by simp; omega) (by omega) fun q hq => by
          rcases List.mem_append.1 hq with hq | hq
          · exact h5 q hq
          · rw [List.mem_singleton.1 hq]; exact hp
      rw [hk', hb']
      simp only [Option.bind_some]
      unfold spec_LgEscapes.f
      simp only [Option.bind_some, List.length_cons, List.length_nil]
      by_cases h19 : 19 ≤ kind
      · rw [if_pos (by omega)]
        obtain ⟨q, hq⟩ := forty big hb40
        obtain ⟨a, b, c1, c2, em1, em2⟩ := two_bytes q
        have hk5 : 5 ≤ k := by omega
        rw [hq, em1, em2]
        clear hq em1 em2 hb hk hk' hb' hw hrd hz hb40
        have hh := wat_head (a % 52) (Nat.mod_lt _ (by decide))
        have ht := wat_tail (b % 62) (Nat.mod_lt _ (by decide))
        rcases parity kind with hm2 | hm2
        · rw [hm2, if_pos (by decide), if_pos (by simp)]
          rw [show (1 : Int).toNat = 1 from rfl, show [(a : Int), (b : Int)].take 1 = [(a : Int)] from rfl, word_one a c1 k hk5]
          simp only [Option.bind_some]
          rw [if_pos hacc]
          exact go _ (.inl ⟨rfl, _, [], rfl, hh.1, hh.2.1, by simp; exact ⟨hh.2.2.1, hh.2.2.2⟩, by simp⟩)
        · rw [hm2, if_pos (by decide), if_pos (by simp)]
          rw [show (2 : Int).toNat = 2 from rfl, show [(a : Int), (b : Int)].take 2 = [(a : Int), (b : Int)] from rfl, word_two a b c1 c2 k hk5]
          simp only [Option.bind_some]
          rw [if_pos hacc]
          exact go _ (.inl ⟨rfl, _, [wat (b % 62)], rfl, hh.1, hh.2.1, by simp; exact ⟨⟨hh.2.2.1, hh.2.2.2⟩, ht⟩, by simp⟩)
      · rw [if_neg (by omega), if_pos hacc]
        exact go _ (.inr ⟨kind, by omega, rfl, rfl⟩)

/-- Those that are kept are pieces, too. -/
theorem ones_eq (ps : List S76) (hp : ∀ p ∈ ps, PieceOk p) (hl : ps.length ≤ 1000) : ∀ (j i k : Nat) (acc : List S76) (d : Bool), i + j = ps.length → j < k → acc.length ≤ i → (∀ p ∈ acc, PieceOk p) →
    ∃ r, spec_lgOnes.l0 k acc d ps (ps.length : Int) (i : Int) = some r ∧ r.length ≤ 1000 ∧ ∀ p ∈ r, PieceOk p
  | 0, i, k, acc, d, h1, h2, h3, h5 => by
    obtain ⟨k, rfl⟩ : ∃ j, k = j + 1 := ⟨k - 1, by omega⟩
    rw [spec_lgOnes.l0, if_neg (by omega)]
    exact ⟨acc, rfl, by omega, h5⟩
  | j + 1, i, k, acc, d, h1, h2, h3, h5 => by
    obtain ⟨k, rfl⟩ : ∃ j, k = j + 1 := ⟨k - 1, by omega⟩
    have hi : i < ps.length := by omega
    have hrd : rd_T76 ps (i : Int) = ps[i] := by unfold rd_T76; simp [hi]
    have e1 : wrap64 ((i : Int) + 1) = ((i + 1 : Nat) : Int) := by rw [g64 (by omega) (by omega)]; push_cast; rfl
    have hacc : acc.length < 5864062014805 := by omega
    have skip : ∀ d, ∃ r, spec_lgOnes.l0 k acc d ps (ps.length : Int) (wrap64 ((i : Int) + 1)) = some r ∧ r.length ≤ 1000 ∧ ∀ p ∈ r, PieceOk p := fun d => by
      rw [e1]
      exact ones_eq ps hp hl j (i + 1) k acc d (by omega) (by omega) (by omega) h5
    have keep : ∀ d, ∃ r, spec_lgOnes.l0 k (acc ++ [(⟨(ps[i]).f0, (ps[i]).f1⟩ : S76)]) d ps (ps.length : Int) (wrap64 ((i : Int) + 1)) = some r ∧ r.length ≤ 1000 ∧ ∀ p ∈ r, PieceOk p := fun d => by
      rw [e1]
      exact ones_eq ps hp hl j (i + 1) k _ d (by omega) (by omega) (by simp; omega) fun q hq => by
        rcases List.mem_append.1 hq with hq | hq
        · exact h5 q hq
        · rw [List.mem_singleton.1 hq]; exact hp _ (List.getElem_mem _)
    rw [spec_lgOnes.l0, if_pos (by omega), if_pos (by omega), if_pos (by omega), hrd]
    unfold spec_LgEscapes.f
    simp only [Option.bind_some]
    repeat' split
    all_goals first
      | exact skip _
      | exact keep _
      | (exfalso; omega)
end Go.Proofs.YtokjbdofpdncdaaDoor
namespace Go.Proofs.YtokjbdofpdncdaaDoor
open Go.RowKit Go.Lib Go.Proofs.YtokjbdofpdncdaaDoor.PlgEscaped Go.Proofs.YtokjbdofpdncdaaDoorW.PrintWords
set_option linter.unusedVariables false
set_option maxRecDepth 100000
attribute [local go_sem] bs_size bs_toList

/-- A row of pieces. -/
def PcAt (w : World) (A : Option Addr) (n : Nat) (r : List S76) : Prop :=
  r.length = n ∧ (r = [] ∨ ∃ g, A = some ⟨g, 0, none⟩ ∧ g < w.heap.size ∧ ∀ i (h : i < r.length), w.cell? ⟨g, i * 2, none⟩ = some (.int .i64 (r[i]).f0) ∧ w.cell? ⟨g, i * 2 + 1, none⟩ = some (.string (r[i]).f1))
theorem pcAt_of {w : World} {base : Nat} {ok : Nat → Prop} {v : Value} {r : List S76} (h : Kd.R k76 76 w base ok v r) :
    ∃ A c, v = .slice A r.length c ∧ PcAt w A r.length r := by
  obtain ⟨A, c, hv, hle, hC⟩ := Kd.R_reads h
  refine ⟨A, c, hv, rfl, ?_⟩
  obtain ⟨_, inner, ho, hr⟩ := h
  rcases ho.2 with ⟨h3, h4⟩ | ⟨g, cap, cur, h3, hbg, hg, hn, hm, _⟩
  · exact .inl (List.eq_nil_of_length_eq_zero h4)
  · rw [h3] at hv
    injection hv with h5 h6 h7
    refine .inr ⟨g, h5.symm, (Array.getElem?_eq_some_iff.1 hg).1, fun i hi => ?_⟩
    obtain ⟨ad, e, c1, c2⟩ := at_T76 hC (i : Int) (by omega) (by omega)
    rw [← h5] at e
    obtain rfl := Option.some.inj e
    have hrd : rd_T76 r (i : Int) = r[i] := by unfold rd_T76; simp [hi]
    rw [hrd] at c1 c2
    rw [Int.toNat_natCast, add_none, Nat.zero_add] at c1 c2
    exact ⟨c1, c2⟩
/-- What a name of pieces is. -/
def NameOut (W T : List UInt8) : Prop := W = [] ∨ (NameTo W T ∧ W.length ≤ 6000)

def NmRel (w : World) (n : Nat) (g : Nat) (s4 s5 s12 : Value) (wr : World) : Prop :=
  ∃ (k : Nat) (W T : List UInt8), s4 = .string (bs W) ∧ s5 = .string (bs T) ∧ s12 = .int .i64 (k : Int) ∧ k + g = n ∧ Hid (EscTo W T) ∧ Hid (W = [] ∨ ∃ c l, W = c :: l ∧ isDig c = false ∧ c ≠ 95) ∧ W.length ≤ 5 * k ∧ T.length ≤ 5 * k ∧ Below w.heap.size w wr
theorem head_app {W X : List UInt8} (h : W = [] ∨ ∃ c l, W = c :: l ∧ isDig c = false ∧ c ≠ 95) (hx : ∃ c l, X = c :: l ∧ isDig c = false ∧ c ≠ 95) : W ++ X = [] ∨ ∃ c l, W ++ X = c :: l ∧ isDig c = false ∧ c ≠ 95 := by
  rcases h with rfl | ⟨c, l, rfl, h1, h2⟩
  · exact .inr hx
  · exact .inr ⟨c, l ++ X, rfl, h1, h2⟩
theorem esc_head : ∀ k : Nat, k < 19 → ∃ c l, escW k = c :: l ∧ isDig c = false ∧ c ≠ 95 := by
  intro k hk
  have h : ∀ j, j < 19 → ((escW j).head?.map fun c => !isDig c && (c != 95)) = some true := by decide +kernel
  have := h k hk
  cases hw : escW k with
  | nil => rw [hw] at this; cases this
  | cons c l =>
    rw [hw] at this
    simp at this
    exact ⟨c, l, rfl, by simpa using this.1, this.2⟩

set_option maxHeartbeats 8000000 in
theorem lgName_any {w : World} {A : Option Addr} {n c : Nat} {ps : List S76} (hC : Kd.C k76 w A ps.length ps) (hn : ps.length = n) (hc : ps.length ≤ c) (hl : ps.length ≤ 1000) (hok : ∀ p ∈ ps, PieceOk p) :
    Calls Tryd.prog 19 #[.slice A n c] w fun e w' => ∃ W T, e = .returned (.tuple #[.string (bs W), .string (bs T)]) ∧ NameOut W T ∧ Below w.heap.size w w' := by
  subst hn
  obtain ⟨r, h1, h2, h3⟩ := ones_eq ps hok hl ps.length 0 (ps.length + 1) [] true (by omega) (by omega) (by simp) (by simp)
  have hf : spec_lgOnes.f (ps.length + 1) ps = some r := h1
  have HO := Lib.hid ((spec_lgOnes.calls _ A c ps r w hC hc hf).mono fun e w' h => (by
    obtain ⟨v, rfl, hR, hb⟩ := h
    obtain ⟨A', c', rfl, hp⟩ := pcAt_of hR
    exact ⟨A', c', rfl, hp, hb⟩ : ∃ A' c', e = .returned (.slice A' r.length c') ∧ PcAt w' A' r.length r ∧ Below w.heap.size w w'))
  have HOK := Lib.hid h3
  have HE := Lib.hid (fun W : World => lgEscapes_any W)
  clear h1 h3 hf hC hok hl
  go_enter Tryd.func19, Tryd.ntmps19
  go_wp2_with (go_at_call 32; refine (HO.out).mono ?_; rintro e w2 ⟨A2, c2, rfl, hrow, hb2⟩; replace hrow := Lib.hid hrow.2)
  go_loopg [4, 5, 12] r.length (fun g s4 s5 s12 wr => NmRel w2 r.length g s4 s5 s12 wr)
  case atStart => exact ⟨0, [], [], rfl, rfl, rfl, by omega, EscTo.nil, .inl rfl, by simp, by simp, Below.refl _ _⟩
  case round =>
    rename World => wr
    obtain ⟨k, W, T, rfl, rfl, rfl, hg, hesc, hhd, hWl, hTl, hb⟩ := hrel
    by_cases hk : k < r.length
    · rcases hrow.out with h | ⟨gb, rfl, hlt, hcells⟩
      · rw [h] at hk; cases hk
      · have ck0 := (hb.cell (p := ⟨gb, k * 2, none⟩) hlt).trans (hcells k hk).1
        have ck1 := (hb.cell (p := ⟨gb, k * 2 + 1, none⟩) hlt).trans (hcells k hk).2
        have hp := HOK.out r[k] (List.getElem_mem _)
        obtain ⟨x, hx⟩ : ∃ x, r[k] = x := ⟨_, rfl⟩
        rw [hx] at ck0 ck1 hp
        clear hx hcells
        rcases hp with ⟨e0, d, t, e1, hd1, hd2, hd3, hd4⟩ | ⟨j, hj, e0, e1⟩
        · rw [e0] at ck0
          rw [e1] at ck1
          obtain ⟨X, hX⟩ : ∃ X, d :: t = X := ⟨_, rfl⟩
          have hXl : X.length ≤ 2 := by rw [← hX]; simp; omega
          have hesc2 := Lib.hid (hesc.out.append (EscTo.word hd3))
          have hhd2 := Lib.hid (head_app hhd.out ⟨d, t, rfl, hd1, hd2⟩)
          rw [hX] at ck1 hesc2 hhd2
          have a1 : ∀ W1, (Op.stringOp .add (bs W) (bs X)).run Tryd.prog W1 = .ok (.string (bs (W ++ X))) W1 := add_bs W X (by omega)
          have a2 : ∀ W1, (Op.stringOp .add (bs T) (bs X)).run Tryd.prog W1 = .ok (.string (bs (T ++ X))) W1 := add_bs T X (by omega)
          clear e0 e1 hX hd1 hd2 hd3 hd4 hesc hhd
          go_wp2_with fail
          go_roundg (r.length - (k + 1))
          case measure => omega
          case rel => exact ⟨k + 1, W ++ X, T ++ X, rfl, rfl, by go_num, by omega, hesc2, hhd2, by simp; omega, by simp; omega, hb.alloc hb.size _⟩
        · rw [e0] at ck0
          rw [e1] at ck1
          have hhd2 := Lib.hid (head_app hhd.out (esc_head j hj))
          have hesc2 := Lib.hid (hesc.out.append (esc_esc hj))
          have hel := esc_len hj
          have hcells := escCells_at hj
          generalize escW j = EW at *
          generalize escT j = ET at *
          have a1 : ∀ W1, (Op.stringOp .add (bs W) (bs EW)).run Tryd.prog W1 = .ok (.string (bs (W ++ EW))) W1 := add_bs W EW (by omega)
          have a2 : ∀ W1, (Op.stringOp .add (bs T) (bs ET)).run Tryd.prog W1 = .ok (.string (bs (T ++ ET))) W1 := add_bs T ET (by omega)
          have hj1 : (j : Int) < 19 := by omega
          obtain ⟨q1, q2⟩ := hcells
          generalize escCells = EC at *
          clear e0 e1 hesc hhd
          go_upto_region 8 with fail
          go_region_with (go_at_call 33; refine (HE.out _).mono ?_; rintro e w6 ⟨rfl, rfl⟩)
          all_goals
            go_wp2_with fail
            go_roundg (r.length - (k + 1))
            case measure => omega
            case rel => exact ⟨k + 1, W ++ EW, T ++ ET, rfl, rfl, by go_num, by omega, hesc2, hhd2, by simp; omega, by simp; omega, by repeat (first | exact hb | refine Below.drew ?_ | refine below_drewN ?_ _ | refine Below.alloc ?_ (by have := hb.size; simp; omega) _)⟩
    · obtain rfl : k = r.length := by omega
      have hbw : Below w.heap.size w wr := hb2.trans (hb.mono hb2.size)
      rcases hhd.out with rfl | ⟨d, t, rfl, hd1, hd2⟩
      · have hT := hesc.out
        cases hT
        go_wp2_with fail
        go_ret2
        exact ⟨[], [], rfl, .inl rfl, hbw⟩
      · have hp0 : 0 < (bs (d :: t)).size := by rw [bs_size]; simp
        have hg0 : (bs (d :: t))[0]'hp0 = d := bs_get0 d t hp0
        have hne : ((d :: t) != ([] : List UInt8)) = true := by simp
        have hnb : ((d :: t) == ([] : List UInt8)) = false := by simp
        by_cases h36 : d = 36
        · have t1 : ((d.toNat : Int) == 36) = true := by rw [h36]; rfl
          have hout : Hid (NameOut (95 :: d :: t) T) := Lib.hid (.inr ⟨.under hd2 hesc.out, by simp at hWl ⊢; omega⟩)
          have ha : ∀ W1, (Op.stringOp .add ⟨#[95]⟩ (bs (d :: t))).run Tryd.prog W1 = .ok (.string (bs (95 :: d :: t))) W1 := add_bs [95] (d :: t) (by simp at hWl ⊢; omega)
          clear hd1 hd2 h36 hesc hhd
          go_wp2_with fail
          go_ret2
          exact ⟨95 :: d :: t, T, rfl, hout.out, hbw⟩
        · have t1 : ((d.toNat : Int) == 36) = false := by
            have : d.toNat ≠ 36 := fun e => h36 (UInt8.toNat_inj.1 e)
            simp; omega
          have hout : Hid (NameOut (d :: t) T) := Lib.hid (.inr ⟨.plain hd1 hd2 hesc.out, by simp at hWl ⊢; omega⟩)
          clear hd1 hd2 h36 hesc hhd
          go_wp2_with fail
          go_ret2
          exact ⟨d :: t, T, rfl, hout.out, hbw⟩
end Go.Proofs.YtokjbdofpdncdaaDoor
namespace Go.Proofs.YtokjbdofpdncdaaDoor
open Go.RowKit Go.Lib Go.WideShapes Go.ChangeShapes Go.Proofs.YtokjbdofpdncdaaDoor.PlgEscaped Go.Proofs.YtokjbdofpdncdaaDoorW.PrintWords
set_option linter.unusedVariables false
set_option maxRecDepth 100000
attribute [local go_sem] bs_size bs_toList

/-- A list of rows of numbers that came in. -/
structure RowsAt (w : World) (A : Option Addr) (n : Nat) (zss : List (List Int)) : Prop where
  len : zss.length = n
  c : Kd.C (Kd.slice 3 (Kd.int .i64)) w A n zss
  wf : ∀ r ∈ zss, r.length ≤ 9223372036854775807 ∧ ∀ z ∈ r, -9223372036854775808 ≤ z ∧ z ≤ 9223372036854775807
  at_ : zss = [] ∨ ∃ b off, A = some ⟨b, off, none⟩ ∧ b < w.heap.size ∧ ∀ i (h : i < zss.length), ∃ Ar Cr, w.cell? ⟨b, off + i, none⟩ = some (.slice Ar zss[i].length Cr) ∧ zss[i].length ≤ Cr ∧ Kd.C (Kd.int .i64) w Ar zss[i].length zss[i]
theorem RowsAt.below {w w' : World} {A : Option Addr} {n : Nat} {zss : List (List Int)} (h : RowsAt w A n zss) (hb : Below w.heap.size w w') : RowsAt w' A n zss := by
  refine ⟨h.len, Kd.C_below h.c hb, h.wf, ?_⟩
  rcases h.at_ with h | ⟨b, off, hA, hlt, hc⟩
  · exact .inl h
  · refine .inr ⟨b, off, hA, Nat.lt_of_lt_of_le hlt hb.size, fun i hi => ?_⟩
    obtain ⟨Ar, Cr, h1, h2, h3⟩ := hc i hi
    exact ⟨Ar, Cr, (hb.cell (p := ⟨b, off + i, none⟩) hlt).trans h1, h2, Kd.C_below h3 hb⟩
theorem rows_open {H : Type} {enc : TypeId × Value → H} {w : World} {held : Bool} {A : Option Addr} {n c : Nat} {d : DataW H} {p : List MemPlace}
    (h : DataW.Trod enc Tryd.prog w 0 (fun _ => true) held 22 (.slice A n c) d p) : ∃ zss, RowsAt w A n zss ∧ n ≤ maxLen ∧ n ≤ c := by
  obtain ⟨fuel, hf⟩ := h
  rcases Go.Deep.open_int_rows Tryd.underlying22 Tryd.underlying49 Tryd.underlying3 (by kernel_rfl) (by kernel_rfl) hf with ⟨hcs, _⟩ | ⟨x, l, cp, Ar, L, C, Z, hcs, _, hl, hm, _, hrow⟩
  · simp [Value.cells] at hcs
    obtain ⟨rfl, rfl, rfl⟩ := hcs
    exact ⟨[], ⟨rfl, Kd.C_nil _ _, by simp, .inl rfl⟩, by simp [maxLen], Nat.le_refl _⟩
  · simp [Value.cells] at hcs
    obtain ⟨rfl, rfl, rfl⟩ := hcs
    have hZ : ∀ r, r < n → ((Z r).take (L r)).length = L r := fun r hr => by
      obtain ⟨_, h1, h2, h3, _⟩ := hrow r (by omega)
      rw [List.length_take]; omega
    have hrC : ∀ r, r < n → Kd.C (Kd.int .i64) w (Ar r) ((Z r).take (L r)).length ((Z r).take (L r)) := fun r hr => by
      obtain ⟨_, h1, h2, h3, h4, h5, h6⟩ := hrow r (by omega)
      refine ⟨rfl, by rw [hZ r hr]; unfold maxLen at h2; omega, fun hpos => ?_⟩
      rw [hZ r hr] at hpos
      cases hA : Ar r with
      | none => have := h5 hA; omega
      | some a' =>
        refine ⟨a', rfl, fun j q hj => ?_⟩
        have hjl : j < L r := by
          rcases Nat.lt_or_ge j (L r) with h | h
          · exact h
          · rw [List.getElem?_eq_none (by rw [hZ r hr]; exact h)] at hj; cases hj
        refine ⟨[.int .i64 q], rfl, rfl, fun i u hi => ?_⟩
        have hi0 : i = 0 := by
          cases i with
          | zero => rfl
          | succ i => simp at hi
        subst hi0
        show w.cell? (a'.add (j * 1 + 0)) = some u
        rw [Nat.mul_one, Nat.add_zero, (h6 a' hA).2 j (by omega)]
        rw [List.getElem?_take_of_lt hjl, List.getElem?_eq_getElem (by omega)] at hj
        simp at hi hj
        rw [← hi, ← hj, List.getD, List.getElem?_eq_getElem (by omega)]
        rfl
    have hwf : ∀ r, r < n → ∀ z ∈ (Z r).take (L r), -9223372036854775808 ≤ z ∧ z ≤ 9223372036854775807 := fun r hr z hz => by
      obtain ⟨_, h1, h2, h3, h4, h5, h6⟩ := hrow r (by omega)
      have := h4 z (List.mem_of_mem_take hz)
      simpa [Lit.wf, IntKind.min, IntKind.max, IntKind.signed, IntKind.bits] using this
    refine ⟨(List.range n).map fun r => (Z r).take (L r), ⟨by simp, ?_, ?_, ?_⟩, by omega, hl⟩
    · refine ⟨by simp, by unfold maxLen at hm; omega, fun hpos => ⟨x, rfl, fun j q hj => ?_⟩⟩
      have hjn : j < n := by
        rcases Nat.lt_or_ge j n with h | h
        · exact h
        · rw [List.getElem?_eq_none (by simpa using h)] at hj; cases hj
      simp [hjn] at hj
      subst hj
      obtain ⟨h0, h1, h2, h3, _⟩ := hrow j (by omega)
      refine ⟨[.slice (Ar j) (L j) (C j)], rfl, ⟨Ar j, C j, by rw [hZ j hjn], by rw [hZ j hjn]; exact h1, hrC j hjn⟩, fun i u hi => ?_⟩
      have hi0 : i = 0 := by
        cases i with
        | zero => rfl
        | succ i => simp at hi
      subst hi0
      show w.cell? (x.add (j * 1 + 0)) = some u
      rw [Nat.mul_one, Nat.add_zero, h0]
      simpa using hi
    · intro r hr
      obtain ⟨j, hj, rfl⟩ := List.mem_map.1 hr
      have hjn := List.mem_range.1 hj
      obtain ⟨_, h1, h2, h3, _⟩ := hrow j (by omega)
      exact ⟨by rw [hZ j hjn]; unfold maxLen at h2; omega, hwf j hjn⟩
    · by_cases h0 : n = 0
      · subst h0; exact .inl (by simp)
      · obtain ⟨b, off, e, hlt⟩ := spot_none (x := x) (hrow 0 (by omega)).1
        subst e
        refine .inr ⟨b, off, rfl, hlt, fun i hi => ?_⟩
        simp only [List.length_map, List.length_range] at hi
        obtain ⟨h0, h1, h2, _⟩ := hrow i (by omega)
        rw [add_none] at h0
        have hlen : ((List.range n).map fun r => (Z r).take (L r))[i]'(by simpa using hi) = (Z i).take (L i) := by simp
        rw [hlen, hZ i hi]
        have := hrC i hi
        rw [hZ i hi] at this
        exact ⟨Ar i, C i, h0, h1, this⟩

/-- A name out of numbers. -/
theorem lgOne_any {w : World} {A : Option Addr} {n c : Nat} {zs : List Int} (hC : Kd.C (Kd.int .i64) w A zs.length zs) (hn : zs.length = n) (hc : zs.length ≤ c) (hl : zs.length ≤ 9223372036854775807) (hz : ∀ z ∈ zs, -9223372036854775808 ≤ z ∧ z ≤ 9223372036854775807) :
    Calls Tryd.prog 20 #[.slice A n c] w fun e w' => ∃ A' c' r, e = .returned (.slice A' r.length c') ∧ Kd.C k76 w' A' r.length r ∧ r.length ≤ c' ∧ r.length ≤ 1000 ∧ (∀ p ∈ r, PieceOk p) ∧ Below w.heap.size w w' := by
  subst hn
  obtain ⟨r, h1, h2, h3⟩ := pieces_eq zs hz hl zs.length 0 (zs.length + 7) [] (by omega) (by omega) rfl (by omega) (by simp)
  have hf : laws_lgPieces.f (zs.length + 7) zs = some r := h1
  refine (laws_lgPieces.calls _ A c zs r w hC hc hf).mono fun e w' h => ?_
  obtain ⟨v, rfl, hR, hb⟩ := h
  obtain ⟨A', c', rfl, hle, hC'⟩ := Kd.R_reads hR
  exact ⟨A', c', r, rfl, hC', hle, h2, h3, hb⟩
end Go.Proofs.YtokjbdofpdncdaaDoor
namespace Go.Proofs.YtokjbdofpdncdaaDoor
open Go.RowKit Go.Lib Go.Proofs.YtokjbdofpdncdaaDoor.PlgEscaped Go.Proofs.YtokjbdofpdncdaaDoorW.PrintWords
set_option linter.unusedVariables false
set_option maxRecDepth 100000
attribute [local go_sem] bs_size bs_toList

def LgEsRel (w : World) (n : Nat) (g : Nat) (s4 s5 s14 : Value) (wr : World) : Prop :=
  ∃ (k : Nat) (ws ts : List (List UInt8)), s14 = .int .i64 (k : Int) ∧ k + g = n ∧ Hid (OwnsS wr w.heap.size s4 ws) ∧ Hid (OwnsS wr w.heap.size s5 ts) ∧ Hid (NeRow s4 s5) ∧ Hid (NamesTo ws ts) ∧ ws.length ≤ k ∧ ts.length ≤ k ∧ k ≤ 100 ∧ Below w.heap.size w wr
theorem namesTo_lens {ws ts : List (List UInt8)} (h : NamesTo ws ts) : ts.length = ws.length := by
  induction h with
  | nil => rfl
  | cons _ _ _ ih => simp [ih]
theorem owns_slice {w : World} {base : Nat} {v : Value} {ls : List (List UInt8)} (h : OwnsS w base v ls) : ∃ A c, v = .slice A ls.length c := by
  rcases h.2 with ⟨h1, h2⟩ | ⟨g, cap, cur, h1, _⟩
  · rw [h2]; exact ⟨_, _, h1⟩
  · exact ⟨_, _, h1⟩
theorem empty_rows (w : World) : OwnsS ((w.alloc (.cells #[] 9)).alloc (.cells #[] 9)) w.heap.size (.slice (some ⟨w.heap.size, 0, none⟩) 0 0) [] ∧
    OwnsS ((w.alloc (.cells #[] 9)).alloc (.cells #[] 9)) w.heap.size (.slice (some ⟨w.heap.size + 1, 0, none⟩) 0 0) [] ∧ NeRow (.slice (some ⟨w.heap.size, 0, none⟩) 0 0) (.slice (some ⟨w.heap.size + 1, 0, none⟩) 0 0) := by
  refine ⟨(World.ownsRow_made (base := w.heap.size) (e := 9) (size := 1) w #[] 0 (Nat.le_refl _) (by simp) (by simp)).alloc _, ?_, ?_⟩
  · have := World.ownsRow_made (base := w.heap.size) (e := 9) (size := 1) (w.alloc (.cells #[] 9)) #[] 0 (by simp) (by simp) (by simp)
    rw [World.size_alloc] at this
    exact this
  · intro k hk hk2
    simp [Value.ownBlock] at hk hk2
    omega

set_option maxHeartbeats 8000000 in
theorem lgEscaped_any {w : World} {A : Option Addr} {n c : Nat} {zss : List (List Int)} (hR : RowsAt w A n zss) :
    Calls Tryd.prog 7 #[.slice A n c] w fun e w' => ∃ v4 v5 ws ts, e = .returned (.tuple #[v4, v5]) ∧ StrsAt w' v4 ws ∧ NamesTo ws ts ∧ ws ≠ [] ∧ ws.length ≤ 100 ∧ Below w.heap.size w w' := by
  obtain ⟨i0, hi, hz0, hz1, hz2⟩ := info_parts lgInfoStr
  have hlen := hR.len
  subst hlen
  have HR := Lib.hid hR
  have HW := Lib.hid (fun (W : World) (hb : Below w.heap.size w W) (ps : List S76) (A : Option Addr) (c : Nat) (hC : Kd.C k76 W A ps.length ps) (hc : ps.length ≤ c) (hl : ps.length ≤ 1000) (hok : ∀ p ∈ ps, PieceOk p) => lgName_any hC rfl hc hl hok)
  obtain ⟨h1, h2, h3⟩ := empty_rows w
  have E1 := Lib.hid h1
  have E2 := Lib.hid h2
  have E3 := Lib.hid h3
  have hB0 := ((Below.refl w.heap.size w).alloc (Nat.le_refl _) (.cells #[] 9)).alloc (by simp) (.cells #[] 9)
  clear hR h1 h2 h3
  go_enter Tryd.func7, Tryd.ntmps7
  go_wp2_with fail
  go_loopg [4, 5, 14] zss.length (fun g s4 s5 s14 wr => LgEsRel w zss.length g s4 s5 s14 wr)
  case atStart => exact ⟨0, [], [], rfl, by omega, E1, E2, E3, NamesTo.nil, by simp, by simp, by omega, hB0⟩
  case round =>
    rename World => wr
    obtain ⟨k, ws, ts, rfl, hg, ho4, ho5, hne, hNN, hwl, htl, hk100, hb⟩ := hrel
    by_cases hgo : k < zss.length ∧ k < 100
    · obtain ⟨hk, hk2⟩ := hgo
      have hRr := HR.out.below hb
      rcases hRr.at_ with h | ⟨b, off, rfl, hlt, hc⟩
      · rw [h] at hk; cases hk
      · obtain ⟨Ar, Cr, ck, hle, hC⟩ := hc k hk
        obtain ⟨hzl, hzw⟩ := hRr.wf zss[k] (List.getElem_mem _)
        have HPc := Lib.hid (lgOne_any hC rfl hle hzl hzw)
        obtain ⟨L, hL⟩ : ∃ L, zss[k].length = L := ⟨_, rfl⟩
        rw [hL] at ck HPc
        have t100 : ¬ (k : Int) ≥ 100 := by omega
        clear hc hRr hC hzl hzw hle hL
        go_upto_if 28 with (first
          | (go_at_call 20; refine (HPc.out).mono ?_; rintro e w3 ⟨A3, c3, r3, rfl, hC3, hc3, hl3, hok3, hb3⟩; have hbw3 := hb.trans (hb3.mono hb.size))
          | (go_at_call 19; refine (HW.out _ hbw3 r3 A3 c3 hC3 hc3 hl3 hok3).mono ?_; rintro e w4 ⟨W, T, rfl, hout, hb4⟩; have hbw4 := hbw3.trans (hb4.mono hbw3.size)))
        have ho4b := Lib.hid ((ho4.out.below (hb3.trans (hb4.mono hb3.size))))
        have ho5b := Lib.hid ((ho5.out.below (hb3.trans (hb4.mono hb3.size))))
        obtain ⟨A4, c4, hv4⟩ := owns_slice ho4.out
        obtain ⟨A5, c5, hv5⟩ := owns_slice ho5.out
        subst hv4 hv5
        clear HPc HW hC3 hok3 ck E1 E2 E3 ho4 ho5
        rcases hout with rfl | ⟨hnm, hWl⟩
        · go_wp2_with fail
          go_roundg (zss.length - (k + 1))
          case measure => omega
          case rel => exact ⟨k + 1, ws, ts, by go_num, by omega, ho4b, ho5b, hne, hNN, by omega, by omega, by omega, hbw4⟩
        · have hWne : (W == ([] : List UInt8)) = false := by
            cases hnm <;> simp
          have hWne2 : (W != ([] : List UInt8)) = true := by
            cases hnm <;> simp
          have hWi : W.isEmpty = false := by
            cases hnm <;> simp
          have hNN2 := Lib.hid (hNN.out.append (.cons hnm (by omega) .nil))
          clear hnm
          go_wp2_with (at_builtin; refine wpList_append_own_at _ rfl _ _ 25 rfl w.heap.size 9 i0 (.string ByteArray.empty) 1 16 Tryd.underlying25 hi hz0 hz1 hz2 rfl (by decide) _ _ _ rfl ((show w4.ownsRow w.heap.size 9 1 _ _ _ from ho4b.out).alloc _) ⟨w4.heap.size, 0, none⟩ 1 1 [.string (bs W)] rfl rfl ?c1 ?c2 ?c3 ?c4 ?c5 ?_)
          case c1 =>
            intro q u hq
            have hB := (Blk.new w4 9 #[.string (bs W)]).cell q
            match q, hq with
            | 0, hq => exact hB.trans hq
          case c2 => intro u hu; simp at hu; subst hu; rfl
          case c3 => unfold maxLen; omega
          case c4 => omega
          case c5 => have := hbw4.size; simp; omega
          intro v4 w5 hown4 hgrow4 _ hat4
          have hb5 : Below w.heap.size w w5 := (hbw4.alloc hbw4.size _).grown hgrow4 (by have := hbw4.size; simp; omega) (fun q hq => (World.ownsRow.lt (show w4.ownsRow w.heap.size 9 1 _ _ _ from ho4b.out) q hq).1)
          have hbw5 := hb5
          have ho4c : Hid (OwnsS w5 w.heap.size v4 (ws ++ [W])) := Lib.hid (by unfold OwnsS; rw [cellsS_snoc, List.length_append]; exact hown4)
          have ho5c : Hid (OwnsS w5 w.heap.size (.slice A5 ts.length c5) ts) := Lib.hid (World.ownsRow.kept (World.ownsRow.alloc (show w4.ownsRow w.heap.size 9 1 _ _ _ from ho5b.out) _) hgrow4 (ne_other hne.out))
          have hne2 : Hid (NeRow v4 (.slice A5 ts.length c5)) := Lib.hid (ne_append (W := w4.alloc (.cells #[.string (bs W)] 9)) hne.out (hat4.imp id fun h => ⟨w4.heap.size + 1, h, by simp⟩) (World.ownsRow.alloc (show w4.ownsRow w.heap.size 9 1 _ _ _ from ho5b.out) _))
          obtain ⟨A6, c6, hv6⟩ := owns_slice ho4c.out
          subst hv6
          clear hown4 hgrow4 hat4 ho4b ho5b hne
          go_wp2_with (at_builtin; refine wpList_append_own_at _ rfl _ _ 25 rfl w.heap.size 9 i0 (.string ByteArray.empty) 1 16 Tryd.underlying25 hi hz0 hz1 hz2 rfl (by decide) _ _ _ rfl ((show w5.ownsRow w.heap.size 9 1 _ _ _ from ho5c.out).alloc _) ⟨w5.heap.size, 0, none⟩ 1 1 [.string (bs T)] rfl rfl ?c1 ?c2 ?c3 ?c4 ?c5 ?_)
          case c1 =>
            intro q u hq
            have hB := (Blk.new w5 9 #[.string (bs T)]).cell q
            match q, hq with
            | 0, hq => exact hB.trans hq
          case c2 => intro u hu; simp at hu; subst hu; rfl
          case c3 => unfold maxLen; omega
          case c4 => omega
          case c5 => have := hbw5.size; simp; omega
          intro v5 w6 hown5 hgrow5 _ hat5
          have hb6 : Below w.heap.size w w6 := (hbw5.alloc hbw5.size _).grown hgrow5 (by have := hbw5.size; simp; omega) (fun q hq => (World.ownsRow.lt (show w5.ownsRow w.heap.size 9 1 _ _ _ from ho5c.out) q hq).1)
          have ho5d : Hid (OwnsS w6 w.heap.size v5 (ts ++ [T])) := Lib.hid (by unfold OwnsS; rw [cellsS_snoc, List.length_append]; exact hown5)
          have ho4d : Hid (OwnsS w6 w.heap.size (.slice A6 (ws ++ [W]).length c6) (ws ++ [W])) := Lib.hid (World.ownsRow.kept (World.ownsRow.alloc (show w5.ownsRow w.heap.size 9 1 _ _ _ from ho4c.out) _) hgrow5 (ne_other (ne_symm hne2.out)))
          have hne3 : Hid (NeRow (.slice A6 (ws ++ [W]).length c6) v5) := Lib.hid (ne_append' (W := w5.alloc (.cells #[.string (bs T)] 9)) hne2.out (hat5.imp id fun h => ⟨w5.heap.size + 1, h, by simp⟩) (World.ownsRow.alloc (show w5.ownsRow w.heap.size 9 1 _ _ _ from ho4c.out) _))
          clear hown5 hgrow5 hat5 ho4c ho5c hne2
          rw [List.length_append] at ho4d hne3
          go_wp2_with fail
          go_roundg (zss.length - (k + 1))
          case measure => omega
          case rel => exact ⟨k + 1, ws ++ [W], ts ++ [T], by go_num, by omega, ho4d, ho5d, hne3, hNN2, by simp; omega, by simp; omega, by omega, hb6⟩
          all_goals (exfalso; rename_i hx; rw [hWi] at hx; cases hx)
    · have ho4s := Lib.hid ho4.out.strs
      obtain ⟨A4, c4, hv4⟩ := owns_slice ho4.out
      obtain ⟨A5, c5, hv5⟩ := owns_slice ho5.out
      subst hv4 hv5
      by_cases hws : ws = []
      · subst hws
        have hts : ts = [] := List.eq_nil_of_length_eq_zero (by rw [namesTo_lens hNN.out]; rfl)
        subst hts
        have hsz := hb.size
        have hB1 := (hb.alloc hsz (.cells #[.string (bs [102])] 9)).alloc (by simp; omega) (.cells #[.string (bs [102])] 9)
        have hS1 := Lib.hid ((strs_one wr [102]).below (Below.alloc (Below.refl _ _) (Nat.le_refl _) (.cells #[.string (bs [102])] 9)))
        have hN1 : Hid (NamesTo [[102]] [[102]]) := Lib.hid (.cons (.plain (by decide) (by decide) (.chr (by decide) (by decide) .nil)) (by simp) .nil)
        have hf : bs [102] = (⟨#[102]⟩ : ByteArray) := rfl
        rw [hf] at hB1 hS1
        clear ho4 ho5 ho4s hne HW E1 E2 E3 hB0
        by_cases hkz : k < zss.length
        · obtain rfl : k = 100 := by omega
          have hRr := HR.out.below hb
          rcases hRr.at_ with h | ⟨b, off, rfl, hlt, hc⟩
          · rw [h] at hkz; cases hkz
          · obtain ⟨Ar, Cr, ck, hle, hC⟩ := hc 100 hkz
            obtain ⟨L, hL⟩ : ∃ L, (zss[100]).length = L := ⟨_, rfl⟩
            rw [hL] at ck
            clear hc hRr hC hle
            go_wp2_with fail
            go_ret2
            exact ⟨_, _, [[102]], [[102]], rfl, hS1.out, hN1.out, by simp, by simp, hB1⟩
        · obtain rfl : k = zss.length := by omega
          go_wp2_with fail
          go_ret2
          exact ⟨_, _, [[102]], [[102]], rfl, hS1.out, hN1.out, by simp, by simp, hB1⟩
      · have hpos := List.length_pos_iff.2 hws
        clear ho4 ho5 hne HW E1 E2 E3 hB0
        have hl0 : ¬ (ws.length : Int) = 0 := by omega
        by_cases hkz : k < zss.length
        · obtain rfl : k = 100 := by omega
          have hRr := HR.out.below hb
          rcases hRr.at_ with h | ⟨b, off, rfl, hlt, hc⟩
          · rw [h] at hkz; cases hkz
          · obtain ⟨Ar, Cr, ck, hle, hC⟩ := hc 100 hkz
            obtain ⟨L, hL⟩ : ∃ L, (zss[100]).length = L := ⟨_, rfl⟩
            rw [hL] at ck
            clear hc hRr hC hle
            go_wp2_with fail
            go_ret2
            exact ⟨_, _, ws, ts, rfl, ho4s.out, hNN.out, hws, by omega, hb⟩
        · obtain rfl : k = zss.length := by omega
          go_wp2_with fail
          go_ret2
          exact ⟨_, _, ws, ts, rfl, ho4s.out, hNN.out, hws, by omega, hb⟩
end Go.Proofs.YtokjbdofpdncdaaDoor
namespace Go.Proofs.YtokjbdofpdncdaaDoor
open Go.RowKit Go.Lib Go.WideShapes Go.ChangeShapes Go.Proofs.YtokjbdofpdncdaaDoorW.PrintWords
set_option linter.unusedVariables false
set_option maxRecDepth 100000
attribute [local go_sem] bs_size bs_toList

namespace PzzFits3
theorem fits_loop (zss : List (List Int)) (hl : zss.length ≤ 2147483647) : ∀ (m i : Nat), i + m = zss.length → ∃ r, laws_zzFits3.l0 (m + 1) zss (zss.length : Int) (i : Int) = some r
  | 0, i, h => by
    unfold laws_zzFits3.l0
    rw [if_neg (by omega)]
    exact ⟨_, rfl⟩
  | m + 1, i, h => by
    unfold laws_zzFits3.l0
    rw [if_pos (by omega), if_pos (by omega), if_pos (by omega)]
    split
    · exact ⟨_, rfl⟩
    · rw [show wrap64 ((i : Int) + 1) = ((i + 1 : Nat) : Int) by unfold wrap64; omega]
      exact fits_loop zss hl m (i + 1) (by omega)
theorem fits_some (zss : List (List Int)) : ∃ k r, laws_zzFits3.f k zss = some r := by
  unfold laws_zzFits3.f
  by_cases h : (zss.length : Int) > 2147483647
  · exact ⟨0, _, if_pos h⟩
  · obtain ⟨r, hr⟩ := fits_loop zss (by omega) zss.length 0 (by omega)
    exact ⟨zss.length + 1, r, by rw [if_neg h]; exact hr⟩
end PzzFits3
theorem fits3_any {w : World} {A : Option Addr} {n c : Nat} {zss : List (List Int)} (hR : RowsAt w A n zss) (hc : n ≤ c) :
    ∃ r, Calls Tryd.prog 6 #[.slice A n c] w fun e w' => e = .returned (.bool r) ∧ Below w.heap.size w w' := by
  obtain ⟨k, r, h⟩ := PzzFits3.fits_some zss
  have := hR.len
  subst this
  exact ⟨r, (PzzFits3.laws_zzFits3.calls k A c zss r w hR.c hc h).mono fun e w' h => ⟨h.1, by obtain ⟨_, m, rfl⟩ := h; exact below_drewN (Below.refl _ _) m⟩⟩

set_option maxHeartbeats 8000000 in
theorem legacyHash_walk (w : World) (hP : Pow w w.heap.size) (A1 : Option Addr) (n1 c1 : Nat) (zss : List (List Int)) (hR : RowsAt w A1 n1 zss) (k1 : n1 ≤ maxLen ∧ n1 ≤ c1)
    (A2 : Option Addr) (n2 c2 : Nat) (l2 : List UInt8) (h2 : Bytes w A2 n2 l2) (k2 : n2 ≤ maxLen ∧ n2 ≤ c2)
    (A3 : Option Addr) (n3 c3 : Nat) (l3 : List UInt8) (h3 : Bytes w A3 n3 l3) (k3 : n3 ≤ maxLen ∧ n3 ≤ c3) :
    Calls Tryd.prog 3 #[.slice A1 n1 c1, .slice A2 n2 c2, .slice A3 n3 c3] w fun e w' => e = .returned (.bool true) ∧ Below w.heap.size w w' := by
  obtain ⟨fit, hfit⟩ := fits3_any hR k1.2
  have HF := Lib.hid hfit
  clear hfit
  by_cases hout : fit = false ∨ 2147483647 < n2 ∨ 2147483647 < n3
  · by_cases hz2 : 2147483647 < n2
    · have hz' : decide ((2147483647 : Int) < (n2 : Int)) = true := decide_eq_true (by omega)
      clear hz2 hR h2 h3 hout
      cases fit with
      | true =>
        go_enter Tryd.func3, Tryd.ntmps3
        go_wp2_with (go_at_call 6; refine (HF.out).mono ?_; rintro e w2 ⟨rfl, hb2⟩)
        all_goals
          go_ret
          exact ⟨rfl, hb2⟩
      | false =>
        go_enter Tryd.func3, Tryd.ntmps3
        go_wp2_with (go_at_call 6; refine (HF.out).mono ?_; rintro e w2 ⟨rfl, hb2⟩)
        all_goals
          go_ret
          exact ⟨rfl, hb2⟩
    · by_cases hz3 : 2147483647 < n3
      · have hz' : decide ((2147483647 : Int) < (n3 : Int)) = true := decide_eq_true (by omega)
        have hz2' : decide ((2147483647 : Int) < (n2 : Int)) = false := decide_eq_false (by omega)
        clear hz2 hz3 hR h2 h3 hout
        cases fit with
        | true =>
          go_enter Tryd.func3, Tryd.ntmps3
          go_wp2_with (go_at_call 6; refine (HF.out).mono ?_; rintro e w2 ⟨rfl, hb2⟩)
          all_goals
            go_ret
            exact ⟨rfl, hb2⟩
        | false =>
          go_enter Tryd.func3, Tryd.ntmps3
          go_wp2_with (go_at_call 6; refine (HF.out).mono ?_; rintro e w2 ⟨rfl, hb2⟩)
          all_goals
            go_ret
            exact ⟨rfl, hb2⟩
      · obtain rfl : fit = false := by simpa [hz2, hz3] using hout
        have hz3' : decide ((2147483647 : Int) < (n3 : Int)) = false := decide_eq_false (by omega)
        have hz2' : decide ((2147483647 : Int) < (n2 : Int)) = false := decide_eq_false (by omega)
        clear hz2 hz3 hR h2 h3 hout
        go_enter Tryd.func3, Tryd.ntmps3
        go_wp2_with (go_at_call 6; refine (HF.out).mono ?_; rintro e w2 ⟨rfl, hb2⟩)
        all_goals
          go_ret
          exact ⟨rfl, hb2⟩
  · obtain rfl : fit = true := by
      cases fit
      · exact absurd (.inl rfl) hout
      · rfl
    have hz3' : decide ((2147483647 : Int) < (n3 : Int)) = false := decide_eq_false (by omega)
    have hz2' : decide ((2147483647 : Int) < (n2 : Int)) = false := decide_eq_false (by omega)
    have HE := Lib.hid (fun (W : World) (hW : Below w.heap.size w W) => lgEscaped_any (c := c1) (hR.below hW))
    have HH2 := Lib.hid (fun (W : World) (hW : Below w.heap.size w W) => lgHash_any (cn := c2) (h2.below hW) k2.1)
    have HH3 := Lib.hid (fun (W : World) (hW : Below w.heap.size w W) => lgHash_any (cn := c3) (h3.below hW) k3.1)
    have hA1 := hashK_len l2 16
    have hA2 := hashK_bytes l2 16
    have hA3 := fun (h : 5 ≤ pop16 (maskH (hashK l2 16))) => hashK_ok (l := l2) h
    have hB1 := hashK_len l3 16
    have hB2 := hashK_bytes l3 16
    have hB3 := fun (h : 5 ≤ pop16 (maskH (hashK l3 16))) => hashK_ok (l := l3) h
    generalize hashK l2 16 = M2 at *
    generalize hashK l3 16 = M3 at *
    have hOld : ∀ (M : List UInt8), M.length = 16 → (∀ c ∈ M, hexLo c = some (hexV c)) → (5 ≤ pop16 (maskH M) → HashOk M) → ∀ (ws ts : List (List UInt8)), NamesTo ws ts → ws.length ≤ 100 → ∃ r ok, OldSays (lgSym ws M) r ok ∧ (decide (8 ≤ pop16 (maskH M)) = true → r = lgPath ts ∧ ok = true) := by
      intro M hM1 hM2 hM3 ws ts hN hn
      by_cases h5 : 5 ≤ pop16 (maskH M)
      · exact ⟨_, _, oldSays_yes hN (hM3 h5) (by omega), fun _ => ⟨rfl, rfl⟩⟩
      · refine ⟨[], false, fun W => old_few hM1 hM2 (by omega) ?_, fun h => by have := of_decide_eq_true h; omega⟩
        have := lgBody_len (namesTo_len hN)
        omega
    have HO2 := Lib.hid (fun ws ts (hN : NamesTo ws ts) hn => hOld M2 hA1 hA2 hA3 ws ts hN hn)
    have HO3 := Lib.hid (fun ws ts (hN : NamesTo ws ts) hn => hOld M3 hB1 hB2 hB3 ws ts hN hn)
    have HSy := Lib.hid (fun (W : World) (hW : Below w.heap.size w W) (v : Value) (ws ts : List (List UInt8)) (M : List UInt8) (hS : StrsAt W v ws) (hN : NamesTo ws ts) (hn : ws.length ≤ 100) (hM : M.length = 16) => lgSymbol_any (h := M) ((hP.keep hW (Nat.le_refl _)).up hW.size (Nat.le_refl _)) hS (namesTo_len hN) (by omega) (by omega))
    have HOI := Lib.hid (fun (F r : List UInt8) (ok : Bool) (h : OldSays F r ok) (W : World) => oldImpl_any h W)
    obtain ⟨Z, hZ⟩ : ∃ Z, oldOpts = Z := ⟨_, rfl⟩
    rw [hZ] at HOI
    unfold oldOpts at hZ
    subst hZ
    have HT := Lib.hid (fun (ws ts : List (List UInt8)) (hN : NamesTo ws ts) (hw : ws ≠ []) => (by
      have hl := namesTo_lens hN
      have hp := hN.pos
      cases ts with
      | nil => exact absurd (List.eq_nil_of_length_eq_zero hl.symm) hw
      | cons t ts =>
        have h1 := hp t (by simp)
        rw [lgPath_flat]; simp [h1] : lgPath ts ≠ []))
    clear hR h2 h3 k1 k2 k3 hout hP hA2 hA3 hB2 hB3 hOld
    generalize hs2 : decide (8 ≤ pop16 (maskH M2)) = sd2 at *
    generalize hs3 : decide (8 ≤ pop16 (maskH M3)) = sd3 at *
    clear hs2 hs3
    cases sd2 with
    | true =>
      cases sd3 with
      | true =>
        go_enter Tryd.func3, Tryd.ntmps3
        go_wp2_with (first
          | (go_at_call 6; refine (HF.out).mono ?_; rintro e w1 ⟨rfl, hb1⟩)
          | (go_at_call 7; refine (HE.out _ hb1).mono ?_; rintro e w2 ⟨v4, v5, ws, ts, rfl, hs2, hN, hw, hn, hb2⟩; have hbw2 := hb1.trans (hb2.mono hb1.size); obtain ⟨r2, ok2, hO2, hf2⟩ := HO2.out ws ts hN hn; obtain ⟨r3, ok3, hO3, hf3⟩ := HO3.out ws ts hN hn; have hT := HT.out ws ts hN hw; have hS2 := HSy.out; have hO2' := Lib.hid (HOI.out _ _ _ hO2); have hO3' := Lib.hid (HOI.out _ _ _ hO3); replace hN := Lib.hid hN; replace hw := Lib.hid hw; clear hO2 hO3 HO2 HO3 HOI hS2 HT)
          | (go_at_call 8; with_reducible refine (HH2.out _ hbw2).mono ?_; rintro e w3 ⟨rfl, hb3⟩; have hs3 := hs2.below hb3; have hbw3 := hbw2.trans (hb3.mono hbw2.size))
          | (go_at_call 8; with_reducible refine (HH3.out _ hbw3).mono ?_; rintro e w4 ⟨rfl, hb4⟩; have hs4 := hs3.below hb4; have hbw4 := hbw3.trans (hb4.mono hbw3.size))
          | (go_at_call 10; with_reducible refine (HSy.out _ hbw4 _ _ _ M2 hs4 hN.out hn hA1).mono ?_; rintro e w5 ⟨rfl, hb5⟩; have hs5 := hs4.below hb5; have hbw5 := hbw4.trans (hb5.mono hbw4.size))
          | (go_at_call 9; with_reducible refine (hO2'.out _).mono ?_; rintro e w6 ⟨rfl, hb6⟩; have hs6 := hs5.below hb6; have hbw6 := hbw5.trans (hb6.mono hbw5.size))
          | (go_at_call 10; with_reducible refine (HSy.out _ hbw6 _ _ _ M3 hs6 hN.out hn hB1).mono ?_; rintro e w7 ⟨rfl, hb7⟩; have hbw7 := hbw6.trans (hb7.mono hbw6.size))
          | (go_at_call 9; with_reducible refine (hO3'.out _).mono ?_; rintro e w8 ⟨rfl, hb8⟩; have hbw8 := hbw7.trans (hb8.mono hbw7.size)))
        go_ret
        exact ⟨by first | rfl | (show Ending.returned (.bool (!(lgPath ts).isEmpty)) = _; have hE : (lgPath ts).isEmpty = false := (by simpa using hT); rw [hE]; rfl), hbw8⟩
      | false =>
        go_enter Tryd.func3, Tryd.ntmps3
        go_wp2_with (first
          | (go_at_call 6; refine (HF.out).mono ?_; rintro e w1 ⟨rfl, hb1⟩)
          | (go_at_call 7; refine (HE.out _ hb1).mono ?_; rintro e w2 ⟨v4, v5, ws, ts, rfl, hs2, hN, hw, hn, hb2⟩; have hbw2 := hb1.trans (hb2.mono hb1.size); obtain ⟨r2, ok2, hO2, hf2⟩ := HO2.out ws ts hN hn; obtain ⟨r3, ok3, hO3, hf3⟩ := HO3.out ws ts hN hn; have hT := HT.out ws ts hN hw; have hS2 := HSy.out; have hO2' := Lib.hid (HOI.out _ _ _ hO2); have hO3' := Lib.hid (HOI.out _ _ _ hO3); replace hN := Lib.hid hN; replace hw := Lib.hid hw; clear hO2 hO3 HO2 HO3 HOI hS2 HT)
          | (go_at_call 8; with_reducible refine (HH2.out _ hbw2).mono ?_; rintro e w3 ⟨rfl, hb3⟩; have hs3 := hs2.below hb3; have hbw3 := hbw2.trans (hb3.mono hbw2.size))
          | (go_at_call 8; with_reducible refine (HH3.out _ hbw3).mono ?_; rintro e w4 ⟨rfl, hb4⟩; have hs4 := hs3.below hb4; have hbw4 := hbw3.trans (hb4.mono hbw3.size))
          | (go_at_call 10; with_reducible refine (HSy.out _ hbw4 _ _ _ M2 hs4 hN.out hn hA1).mono ?_; rintro e w5 ⟨rfl, hb5⟩; have hs5 := hs4.below hb5; have hbw5 := hbw4.trans (hb5.mono hbw4.size))
          | (go_at_call 9; with_reducible refine (hO2'.out _).mono ?_; rintro e w6 ⟨rfl, hb6⟩; have hs6 := hs5.below hb6; have hbw6 := hbw5.trans (hb6.mono hbw5.size))
          | (go_at_call 10; with_reducible refine (HSy.out _ hbw6 _ _ _ M3 hs6 hN.out hn hB1).mono ?_; rintro e w7 ⟨rfl, hb7⟩; have hbw7 := hbw6.trans (hb7.mono hbw6.size))
          | (go_at_call 9; with_reducible refine (hO3'.out _).mono ?_; rintro e w8 ⟨rfl, hb8⟩; have hbw8 := hbw7.trans (hb8.mono hbw7.size)))
        go_ret
        exact ⟨by first | rfl | (show Ending.returned (.bool (!(lgPath ts).isEmpty)) = _; have hE : (lgPath ts).isEmpty = false := (by simpa using hT); rw [hE]; rfl), hbw8⟩
    | false =>
      cases sd3 with
      | true =>
        go_enter Tryd.func3, Tryd.ntmps3
        go_wp2_with (first
          | (go_at_call 6; refine (HF.out).mono ?_; rintro e w1 ⟨rfl, hb1⟩)
          | (go_at_call 7; refine (HE.out _ hb1).mono ?_; rintro e w2 ⟨v4, v5, ws, ts, rfl, hs2, hN, hw, hn, hb2⟩; have hbw2 := hb1.trans (hb2.mono hb1.size); obtain ⟨r2, ok2, hO2, hf2⟩ := HO2.out ws ts hN hn; obtain ⟨r3, ok3, hO3, hf3⟩ := HO3.out ws ts hN hn; have hT := HT.out ws ts hN hw; have hS2 := HSy.out; have hO2' := Lib.hid (HOI.out _ _ _ hO2); have hO3' := Lib.hid (HOI.out _ _ _ hO3); replace hN := Lib.hid hN; replace hw := Lib.hid hw; clear hO2 hO3 HO2 HO3 HOI hS2 HT)
          | (go_at_call 8; with_reducible refine (HH2.out _ hbw2).mono ?_; rintro e w3 ⟨rfl, hb3⟩; have hs3 := hs2.below hb3; have hbw3 := hbw2.trans (hb3.mono hbw2.size))
          | (go_at_call 8; with_reducible refine (HH3.out _ hbw3).mono ?_; rintro e w4 ⟨rfl, hb4⟩; have hs4 := hs3.below hb4; have hbw4 := hbw3.trans (hb4.mono hbw3.size))
          | (go_at_call 10; with_reducible refine (HSy.out _ hbw4 _ _ _ M2 hs4 hN.out hn hA1).mono ?_; rintro e w5 ⟨rfl, hb5⟩; have hs5 := hs4.below hb5; have hbw5 := hbw4.trans (hb5.mono hbw4.size))
          | (go_at_call 9; with_reducible refine (hO2'.out _).mono ?_; rintro e w6 ⟨rfl, hb6⟩; have hs6 := hs5.below hb6; have hbw6 := hbw5.trans (hb6.mono hbw5.size))
          | (go_at_call 10; with_reducible refine (HSy.out _ hbw6 _ _ _ M3 hs6 hN.out hn hB1).mono ?_; rintro e w7 ⟨rfl, hb7⟩; have hbw7 := hbw6.trans (hb7.mono hbw6.size))
          | (go_at_call 9; with_reducible refine (hO3'.out _).mono ?_; rintro e w8 ⟨rfl, hb8⟩; have hbw8 := hbw7.trans (hb8.mono hbw7.size)))
        go_ret
        exact ⟨by first | rfl | (show Ending.returned (.bool (!(lgPath ts).isEmpty)) = _; have hE : (lgPath ts).isEmpty = false := (by simpa using hT); rw [hE]; rfl), hbw8⟩
      | false =>
        go_enter Tryd.func3, Tryd.ntmps3
        go_wp2_with (first
          | (go_at_call 6; refine (HF.out).mono ?_; rintro e w1 ⟨rfl, hb1⟩)
          | (go_at_call 7; refine (HE.out _ hb1).mono ?_; rintro e w2 ⟨v4, v5, ws, ts, rfl, hs2, hN, hw, hn, hb2⟩; have hbw2 := hb1.trans (hb2.mono hb1.size); obtain ⟨r2, ok2, hO2, hf2⟩ := HO2.out ws ts hN hn; obtain ⟨r3, ok3, hO3, hf3⟩ := HO3.out ws ts hN hn; have hT := HT.out ws ts hN hw; have hS2 := HSy.out; have hO2' := Lib.hid (HOI.out _ _ _ hO2); have hO3' := Lib.hid (HOI.out _ _ _ hO3); replace hN := Lib.hid hN; replace hw := Lib.hid hw; clear hO2 hO3 HO2 HO3 HOI hS2 HT)
          | (go_at_call 8; with_reducible refine (HH2.out _ hbw2).mono ?_; rintro e w3 ⟨rfl, hb3⟩; have hs3 := hs2.below hb3; have hbw3 := hbw2.trans (hb3.mono hbw2.size))
          | (go_at_call 8; with_reducible refine (HH3.out _ hbw3).mono ?_; rintro e w4 ⟨rfl, hb4⟩; have hs4 := hs3.below hb4; have hbw4 := hbw3.trans (hb4.mono hbw3.size))
          | (go_at_call 10; with_reducible refine (HSy.out _ hbw4 _ _ _ M2 hs4 hN.out hn hA1).mono ?_; rintro e w5 ⟨rfl, hb5⟩; have hs5 := hs4.below hb5; have hbw5 := hbw4.trans (hb5.mono hbw4.size))
          | (go_at_call 9; with_reducible refine (hO2'.out _).mono ?_; rintro e w6 ⟨rfl, hb6⟩; have hs6 := hs5.below hb6; have hbw6 := hbw5.trans (hb6.mono hbw5.size))
          | (go_at_call 10; with_reducible refine (HSy.out _ hbw6 _ _ _ M3 hs6 hN.out hn hB1).mono ?_; rintro e w7 ⟨rfl, hb7⟩; have hbw7 := hbw6.trans (hb7.mono hbw6.size))
          | (go_at_call 9; with_reducible refine (hO3'.out _).mono ?_; rintro e w8 ⟨rfl, hb8⟩; have hbw8 := hbw7.trans (hb8.mono hbw7.size)))
        go_ret
        exact ⟨by first | rfl | (show Ending.returned (.bool (!(lgPath ts).isEmpty)) = _; have hE : (lgPath ts).isEmpty = false := (by simpa using hT); rw [hE]; rfl), hbw8⟩
end Go.Proofs.YtokjbdofpdncdaaDoor
