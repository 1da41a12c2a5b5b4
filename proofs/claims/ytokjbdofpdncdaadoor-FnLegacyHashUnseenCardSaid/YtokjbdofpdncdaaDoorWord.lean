/- Names made out of bytes: plain ones, and words. -/
import Derived.Test.YtokjbdofpdncdaaDoorArg
import Derived.OwnWalk
import Derived.Lib.Hide
import Derived.Deep.LoopGhost
namespace Go.Proofs.YtokjbdofpdncdaaDoor
open Go.RowKit
set_option linter.unusedVariables false
set_option maxRecDepth 100000
attribute [local go_sem] bs_size

def plainTab : List UInt8 := [97, 98, 99, 100, 101, 102, 103, 104, 105, 106, 107, 108, 109, 110, 111, 112, 113, 114, 115, 116, 117, 118, 119, 120, 121, 122, 65, 66, 67, 68, 69, 70, 71, 72, 73, 74, 75, 76, 77, 78, 79, 80, 81, 82, 83, 84, 85, 86, 87, 88, 89, 90, 48, 49, 50, 51, 52, 53, 54, 55, 56, 57, 95]
/-- The letter of a byte's remainder. -/
def plainAt (m : Nat) (c : UInt8) : UInt8 := plainTab.getD (c.toNat % m) 0
def plainOf (l : List UInt8) : List UInt8 := if l = [] then [97] else l.map (plainAt 63)
def wordOf (l : List UInt8) : List UInt8 := match l with
  | [] => [97]
  | c :: t => plainAt 52 c :: t.map (plainAt 62)

theorem ba_getD (s : ByteArray) (i : Nat) (h : i < s.size) : s[i]'h = s.data.toList.getD i 0 := by
  obtain ⟨a⟩ := s
  show a[i]'h = a.toList.getD i 0
  have h' : i < a.size := h
  simp [List.getD, h']
theorem rem_u8 (c : UInt8) (m : Nat) (hm : 0 < m) : ((wrap64 (c.toNat : Int)).tmod (m : Int)).toNat = c.toNat % m := by
  have := c.toNat_lt
  have e : wrap64 (c.toNat : Int) = (c.toNat : Int) := by unfold wrap64; omega
  rw [e, Int.tmod_eq_emod_of_nonneg (by omega)]
  omega

theorem rem_lo (c : UInt8) (m : Nat) (hm : 0 < m) : 0 ≤ (wrap64 (c.toNat : Int)).tmod (m : Int) := by
  have := c.toNat_lt
  have e : wrap64 (c.toNat : Int) = (c.toNat : Int) := by unfold wrap64; omega
  rw [e, Int.tmod_eq_emod_of_nonneg (by omega)]
  exact Int.emod_nonneg _ (by omega)
theorem rem_hi (c : UInt8) (m : Nat) (hm : 0 < m) : (wrap64 (c.toNat : Int)).tmod (m : Int) < (m : Int) := by
  have := c.toNat_lt
  have e : wrap64 (c.toNat : Int) = (c.toNat : Int) := by unfold wrap64; omega
  rw [e, Int.tmod_eq_emod_of_nonneg (by omega)]
  exact Int.emod_lt_of_pos _ (by omega)

theorem anWord_some {w : World} {b off cap : Nat} {l : List UInt8} (hp : 0 < l.length) (hlt : b < w.heap.size) (hn : l.length ≤ 1000)
    (hc : ∀ i (h : i < l.length), w.cell? ⟨b, off + i, none⟩ = some (.int .u8 (l[i].toNat : Int))) :
    Calls Tryd.prog 35 #[.slice (some ⟨b, off, none⟩) l.length cap] w fun e w' => e = .returned (.string (bs (plainAt 52 (l[0]'hp) :: (l.drop 1).map (plainAt 62)))) ∧ Below w.heap.size w w' := by
  have hne : ((l.length : Int) == 0) = false := by simpa using (by omega : ¬ (l.length : Int) = 0)
  obtain ⟨i0, hi, hz0, hz1, hz2⟩ := info_parts (show (Tryd.prog.info? 5).map (fun i => (i.zero, i.size, i.bytes)) = some (some (.int .u8 0), 1, 1) by kernel_rfl)
  have hc' := Lib.hid hc
  clear hc
  go_enter Tryd.func35, Tryd.ntmps35
  go_wp2_with (at_make; refine wpList_make_full _ rfl _ _ 23 rfl w.heap.size 5 i0 (.int .u8 0) 1 Tryd.underlying23 hi hz0 hz1 _ _ _ _ l.length rfl rfl rfl rfl ?b2 ?b3 ?b4 ?_)
  case b2 => rw [hz2]; omega
  case b3 => unfold maxLen; omega
  case b4 => exact Nat.le_refl _
  intro w1 hown hgrow
  have HB1 : Below w.heap.size w w1 := (Below.refl _ _).grown hgrow (Nat.le_refl _) (fun k hk => by cases hk)
  obtain ⟨cs0, hB0, hcs0⟩ : ∃ cs, Blk w1 w.heap.size 5 cs ∧ cs.size = l.length := by
    rcases hown.2 with ⟨hv, _⟩ | ⟨g, cap', cur, hv, _, hg, _, _, hs, _⟩
    · cases hv
    · cases hv
      exact ⟨cur, hg, by omega⟩
  clear hown hgrow hz0 hz1 hz2 hi
  go_wp2_with fail
  go_loopg [14] l.length (fun g v wr => ∃ (k : Nat) (cs : Array Value), v = .int .i64 k ∧ k + g = l.length ∧ Blk wr w.heap.size 5 cs ∧ cs.size = l.length ∧ Hid (∀ i (h : i < l.length), i < k → cs[i]? = some (.int .u8 ((plainAt 62 l[i]).toNat : Int))) ∧ Below w.heap.size w wr)
  case atStart => exact ⟨0, cs0, rfl, by omega, hB0, hcs0, Lib.hid (fun i _ h => by omega), HB1⟩
  case round =>
    clear hB0 hcs0 HB1
    obtain ⟨k, cs, rfl, hg, hB, hcs, hrel, hbel⟩ := hrel
    by_cases hk : k < l.length
    · have ck : wr.cell? ⟨b, off + k, none⟩ = some (.int .u8 ((l[k]).toNat : Int)) := (hbel.cell (p := ⟨b, off + k, none⟩) hlt).trans (hc'.out k hk)
      obtain ⟨v0, cv0⟩ : ∃ v, cs[k]? = some v := ⟨cs[k]'(by omega), Array.getElem?_eq_getElem _⟩
      have ck2 : wr.cell? ⟨w.heap.size, k, none⟩ = some v0 := (hB.cell k).trans cv0
      have fk2 := hB.frozen k
      have hr1 : 0 ≤ (wrap64 (l[k].toNat : Int)).tmod 62 := rem_lo l[k] 62 (by decide)
      have hr2 : (wrap64 (l[k].toNat : Int)).tmod 62 < 62 := rem_hi l[k] 62 (by decide)
      have hr3 : ((wrap64 (l[k].toNat : Int)).tmod 62).toNat = l[k].toNat % 62 := rem_u8 l[k] 62 (by decide)
      replace hr3 := Lib.hid hr3
      have HB := Lib.hid hB
      clear cv0 hB
      go_wp2_with fail
      go_roundg (l.length - (k + 1))
      case measure => omega
      case rel =>
        refine ⟨k + 1, _, by simp, by omega, HB.out.set_ k _, by simpa using hcs, Lib.hid (fun i hi hik => ?_), hbel.setCell (p := ⟨w.heap.size, k, none⟩) (Nat.le_refl _) _⟩
        by_cases hik2 : i = k
        · subst hik2
          rw [Array.getElem?_setIfInBounds_self_of_lt (by omega)]
          rw [ba_getD, hr3.out]
          rfl
        · rw [Array.getElem?_setIfInBounds_ne (by omega)]
          exact hrel.out i hi (by omega)
    · have hk2 : k = l.length := by omega
      subst hk2
      obtain ⟨v0, cv0⟩ : ∃ v, cs[0]? = some v := ⟨cs[0]'(by omega), Array.getElem?_eq_getElem _⟩
      have c0' : wr.cell? ⟨b, off, none⟩ = some (.int .u8 ((l[0]).toNat : Int)) := (hbel.cell (p := ⟨b, off, none⟩) hlt).trans (hc'.out 0 hp)
      have ck2 : wr.cell? ⟨w.heap.size, 0, none⟩ = some v0 := (hB.cell 0).trans cv0
      have fk2 := hB.frozen 0
      have hr1 : 0 ≤ (wrap64 (l[0].toNat : Int)).tmod 52 := rem_lo l[0] 52 (by decide)
      have hr2 : (wrap64 (l[0].toNat : Int)).tmod 52 < 52 := rem_hi l[0] 52 (by decide)
      have hr3 : ((wrap64 (l[0].toNat : Int)).tmod 52).toNat = l[0].toNat % 52 := rem_u8 l[0] 52 (by decide)
      have hcv : ∀ x : Int, x = ((plainAt 52 l[0]).toNat : Int) → (convert 23 9 (.slice (some ⟨w.heap.size, 0, none⟩) l.length l.length)).run Tryd.prog (wr.setCell ⟨w.heap.size, 0, none⟩ (.int .u8 x)) = .ok (.string (bs (plainAt 52 l[0] :: (l.drop 1).map (plainAt 62)))) (wr.setCell ⟨w.heap.size, 0, none⟩ (.int .u8 x)) := fun x hx => by
        have hB2 := hB.set_ 0 (.int .u8 x)
        refine Bytes.convert (A := some ⟨w.heap.size, 0, none⟩) (n := l.length) (l := plainAt 52 l[0] :: (l.drop 1).map (plainAt 62)) ⟨by simp; omega, .inr ⟨w.heap.size, 0, rfl, hB2.lt, fun i h => ?_⟩⟩ l.length Tryd.underlying23 Tryd.underlying5 Tryd.underlying9
        rw [Nat.zero_add, hB2.cell]
        cases i with
        | zero =>
          rw [Array.getElem?_setIfInBounds_self_of_lt (by omega), hx]
          rfl
        | succ i =>
          simp at h
          rw [Array.getElem?_setIfInBounds_ne (by omega), hrel.out (i + 1) (by omega) (by omega)]
          simp
      have hcv' := Lib.hid hcv
      replace hr3 := Lib.hid hr3
      clear hB cv0 hcv
      go_wp2_with fail
      rw [hcv'.out _ (by rw [ba_getD, hr3.out]; rfl)]
      simp only [Result.andThen]
      rw [Oper.upon_value]
      go_wp2
      go_ret
      exact ⟨by simp, hbel.setCell (p := ⟨w.heap.size, 0, none⟩) (Nat.le_refl _) _⟩

theorem anWord_end {w : World} {b off cap : Nat} {c0 : UInt8} {l0 : List UInt8} (hlt : b < w.heap.size) (hn : (c0 :: l0).length ≤ 1000)
    (hc : ∀ i (h : i < (c0 :: l0).length), w.cell? ⟨b, off + i, none⟩ = some (.int .u8 ((c0 :: l0)[i].toNat : Int))) :
    Calls Tryd.prog 35 #[.slice (some ⟨b, off, none⟩) (c0 :: l0).length cap] w fun e w' => e = .returned (.string (bs (wordOf (c0 :: l0)))) ∧ Below w.heap.size w w' := anWord_some (by simp) hlt hn hc
theorem anWord_none {w : World} {A : Option Addr} {cap : Nat} :
    Calls Tryd.prog 35 #[.slice A 0 cap] w fun e w' => e = .returned (.string (bs [97])) ∧ Below w.heap.size w w' := by
  go_enter Tryd.func35, Tryd.ntmps35
  go_wp2
  go_ret
  exact ⟨rfl, Below.refl _ _⟩
theorem anWord_any {w : World} {A : Option Addr} {n cap : Nat} {l : List UInt8} (h : Bytes w A n l) (hn : n ≤ 1000) :
    Calls Tryd.prog 35 #[.slice A n cap] w fun e w' => e = .returned (.string (bs (wordOf l))) ∧ Below w.heap.size w w' := by
  obtain ⟨rfl, h⟩ := h
  cases l with
  | nil => exact anWord_none
  | cons c0 l0 =>
    rcases h with h | ⟨b, off, rfl, hlt, hc⟩
    · cases h
    · exact anWord_end hlt hn hc
end Go.Proofs.YtokjbdofpdncdaaDoor
