/- The door to the old reader; words as names. -/
import Derived.Test.YtokjbdofpdncdaaDoorOld
import Derived.Test.YtokjbdofpdncdaaDoorLgSpec
import Derived.Deep.RegionWith
namespace Go.Proofs.YtokjbdofpdncdaaDoor
open Go.RowKit Go.Lib
set_option linter.unusedVariables false
set_option maxRecDepth 100000
attribute [local go_sem] bs_size bs_toList

theorem plainAt_word (c : UInt8) : (plainAt 52 c ≠ 36 ∧ plainAt 52 c ≠ 46 ∧ plainAt 52 c ≠ 95 ∧ isDig (plainAt 52 c) = false) ∧ plainAt 62 c ≠ 36 ∧ plainAt 62 c ≠ 46 := by
  have h := fun (p : UInt8 → Bool) (hp : ((List.range 256).all fun n => p (UInt8.ofNat n)) = true) => (by
    have := List.all_eq_true.1 hp c.toNat (List.mem_range.2 c.toNat_lt)
    simpa using this : p c = true)
  have := h (fun c => plainAt 52 c != 36 && plainAt 52 c != 46 && plainAt 52 c != 95 && !isDig (plainAt 52 c) && plainAt 62 c != 36 && plainAt 62 c != 46) (by kernel_rfl)
  simp only [Bool.and_eq_true, Bool.not_eq_true', bne_iff_ne] at this
  exact ⟨⟨this.1.1.1.1.1, this.1.1.1.1.2, this.1.1.1.2, this.1.1.2⟩, this.1.2, this.2⟩
theorem word_bytes (l : List UInt8) : ∀ c ∈ wordOf l, c ≠ 36 ∧ c ≠ 46 := by
  cases l with
  | nil =>
    intro c hc
    simp [wordOf] at hc
    subst hc
    decide
  | cons d l =>
    intro c hc
    simp only [wordOf, List.mem_cons, List.mem_map] at hc
    rcases hc with rfl | ⟨e, _, rfl⟩
    · exact ⟨(plainAt_word d).1.1, (plainAt_word d).1.2.1⟩
    · exact (plainAt_word e).2
theorem word_head (l : List UInt8) : ∃ c t, wordOf l = c :: t ∧ isDig c = false ∧ c ≠ 95 := by
  cases l with
  | nil => exact ⟨97, [], rfl, by decide, by decide⟩
  | cons d l => exact ⟨_, _, rfl, (plainAt_word d).1.2.2.2, (plainAt_word d).1.2.2.1⟩
theorem word_len (l : List UInt8) (h : l.length ≤ 1000) : (wordOf l).length ≤ 1000 := by
  cases l with
  | nil => simp [wordOf]
  | cons c l => simpa [wordOf] using h
theorem word_name (l : List UInt8) : NameTo (wordOf l) (wordOf l) := by
  obtain ⟨c, t, e, h1, h2⟩ := word_head l
  have hb := word_bytes l
  rw [e] at hb ⊢
  exact .plain h1 h2 (EscTo.word hb)
theorem words_names : ∀ {ws : List (List UInt8)}, (∀ w ∈ ws, NameTo w w ∧ w.length ≤ 1000000) → NamesTo ws ws
  | [], _ => .nil
  | w :: ws, h => .cons (h w (by simp)).1 (h w (by simp)).2 (words_names fun v hv => h v (by simp [hv]))
theorem lgWordsOf_names (names : List (List UInt8)) : ∀ w ∈ lgWordsOf names, NameTo w w ∧ w.length ≤ 1000 := by
  intro w hw
  unfold lgWordsOf at hw
  split at hw
  · simp at hw
    subst hw
    exact ⟨.plain (by decide) (by decide) (EscTo.word (by decide)), by simp⟩
  · unfold wordsK at hw
    obtain ⟨i, _, rfl⟩ := List.mem_map.1 hw
    exact ⟨word_name _, word_len _ (lgCut_le _)⟩
theorem lgWordsOf_head (names : List (List UInt8)) : ∀ w ∈ lgWordsOf names, ∃ c t, w = c :: t ∧ isDig c = false ∧ c ≠ 95 := by
  intro w hw
  unfold lgWordsOf at hw
  split at hw
  · simp at hw
    subst hw
    exact ⟨102, [], rfl, by decide, by decide⟩
  · unfold wordsK at hw
    obtain ⟨i, _, rfl⟩ := List.mem_map.1 hw
    exact word_head _
theorem lgWordsOf_len (names : List (List UInt8)) : (lgWordsOf names).length ≤ 100 := by
  unfold lgWordsOf
  split
  · simp
  · rw [wordsK_len]; omega
theorem lgWordsOf_pos (names : List (List UInt8)) : lgWordsOf names ≠ [] := by
  unfold lgWordsOf
  split
  · simp
  · rename_i h
    intro e
    have h2 := congrArg List.length e
    rw [wordsK_len, List.length_nil] at h2
    have h3 := List.length_pos_iff.2 h
    omega

/-! Down from the laws. -/
def oldOpts : Value := .agg #[.bool false, .bool false, .bool false, .bool false, .bool false, .bool false, .bool false, .int .i64 0]
theorem oldList_zero (w : World) : Calls Tryd.prog 23 #[oldOpts] w fun e w' => e = .returned (.slice none 0 0) ∧ Below w.heap.size w w' := by
  unfold oldOpts
  go_enter Tryd.func23, Tryd.ntmps23
  go_wp2
  go_ret
  exact ⟨rfl, by repeat (first | exact Below.refl _ _ | refine Below.alloc ?_ (by simp) _)⟩

def OldSays (F : List UInt8) (r : List UInt8) (ok : Bool) : Prop :=
  ∀ W : World, Calls Tryd.prog 36 #[.string (bs F), .slice none 0 0] W fun e w' => e = .returned (.tuple #[.string (bs r), .bool ok]) ∧ Below W.heap.size W w'
theorem oldPub_any {F r : List UInt8} {ok : Bool} (H : OldSays F r ok) (w : World) :
    Calls Tryd.prog 22 #[.string (bs F), .slice none 0 0] w fun e w' => e = .returned (.tuple #[.string (bs r), .bool ok]) ∧ Below w.heap.size w w' := by
  have HO := Lib.hid H
  clear H
  go_enter Tryd.func22, Tryd.ntmps22
  go_wp2_with (go_at_call 36; refine (HO.out _).mono ?_; rintro e w2 ⟨rfl, hb2⟩)
  go_ret2
  exact ⟨rfl, hb2⟩
theorem oldImpl_any {F r : List UInt8} {ok : Bool} (H : OldSays F r ok) (w : World) :
    Calls Tryd.prog 9 #[.string (bs F), oldOpts] w fun e w' => e = .returned (.tuple #[.string (bs r), .bool ok]) ∧ Below w.heap.size w w' := by
  have HO := Lib.hid (oldPub_any H)
  have HL := Lib.hid (fun W => oldList_zero W)
  have HB := Lib.hid (fun (W : World) (hW : Below w.heap.size w W) o => (show Below w.heap.size w (W.alloc o) from hW.alloc hW.size o))
  clear H
  obtain ⟨Z, hZ⟩ : ∃ Z, oldOpts = Z := ⟨_, rfl⟩
  rw [hZ] at HL ⊢
  unfold oldOpts at hZ
  subst hZ
  go_enter Tryd.func9, Tryd.ntmps9
  go_wp2_with (first
    | (go_at_call 23; refine (HL.out _).mono ?_; rintro e w1 ⟨rfl, hb1⟩)
    | (go_at_call 22; refine (HO.out _).mono ?_; rintro e w2 ⟨rfl, hb2⟩))
  go_ret2
  have hA := HB.out _ (Below.refl _ _) (.cells #[.bool false, .bool false, .bool false, .bool false, .bool false, .bool false, .bool false, .int .i64 0] 33)
  have hB := hA.trans (hb1.mono hA.size)
  exact ⟨rfl, hB.trans (hb2.mono hB.size)⟩

theorem oldSays_yes {ws ts : List (List UInt8)} {h : List UInt8} (hN : NamesTo ws ts) (hh : HashOk h) (hn : ws.length ≤ 200) : OldSays (lgSym ws h) (lgPath ts) true := by
  intro W
  have := old_any (w := W) (tl := []) (ok := true) hN rfl hh hn (by simp)
  rw [lgJoin_eq hN.pos, List.append_nil] at this
  exact this
theorem oldSays_no {ws ts : List (List UInt8)} {tl h : List UInt8} (hN : NamesTo ws ts) (hT : LgTail tl false) (hh : HashOk h) (hn : ws.length ≤ 200) (htl : tl.length ≤ 2000000) :
    OldSays (95 :: 90 :: 78 :: (lgBody ws ++ tl ++ (49 :: 55 :: 104 :: (h ++ [69])))) [] false := by
  intro W
  exact old_any (w := W) hN hT hh hn htl
end Go.Proofs.YtokjbdofpdncdaaDoor
