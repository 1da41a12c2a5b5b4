/- The reader of Punycode: the walk. -/
import Derived.Test.YteeodkmhelmedaaPunyP
import Derived.Test.YteeodkmhelmedaaAdv
import Derived.Test.YteeodkmhelmedaaShelf
import Derived.Test.YteeodkmhelmedaaNum
import Derived.Laws.CopyOwn
import Derived.Laws.IdiomStrings
import Derived.Laws.Cover4
import Derived.Laws.AppendOwn
import Derived.Deep.DeepCutAuto
import Derived.Deep.LoopGhost
import Derived.Deep.CutBlock
import Derived.Deep.RegionWith
import Derived.Deep.RegionLaw
import Derived.WalkMore
namespace Go.Proofs.Yteeodkmhelmedaa
open Go.RowKit Go.Lib
set_option linter.unusedVariables false
set_option maxRecDepth 100000
attribute [local go_sem] bs_size bs_toList

/-- The cells of characters. -/
def cellsRn (ns : List Nat) : List Value := ns.map fun n => Value.int .i32 (Int.ofNat n)
theorem cellsRn_len (ns : List Nat) : (cellsRn ns).length = ns.length := by simp [cellsRn]
def OwnsRn (w : World) (base : Nat) (v : Value) (ns : List Nat) : Prop := w.ownsRow base 21 1 v ns.length (cellsRn ns)

/-- What is before the last underscore, and what is behind it. -/
def PunyIn (l pre enc : List UInt8) : Prop :=
  (Lib.lastIndex l [95] = (pre.length : Int) ∧ l = pre ++ 95 :: enc ∧ ∀ c ∈ pre, c.toNat < 128) ∨ (Lib.lastIndex l [95] = -1 ∧ enc = l ∧ pre = [])

theorem rst_below {w w' : World} {b : Nat} {st : St} (h : Rst w b st) (hb : Below w.heap.size w w') : Rst w' b st := by
  obtain ⟨last, av, bv, h1, h3⟩ := h
  refine ⟨last, av, bv, h1.below hb h1.lt, h3.1, h3.2.1, ?_⟩
  rcases h3.2.2 with h | ⟨g, cap, cur, hv, hbg, hg, r⟩
  · exact .inl h
  · have hlt : g < w.heap.size := by
      rcases Nat.lt_or_ge g w.heap.size with h | h
      · exact h
      · rw [Array.getElem?_eq_none h] at hg; cases hg
    exact .inr ⟨g, cap, cur, hv, hbg, (hb.block g hlt).trans hg, r⟩

def PunyEnd (w : World) (res : Option (List Nat)) (e : Ending) (w' : World) : Prop :=
  Below w.heap.size w w' ∧ match res with
  | some out => e = .returned (.string (runesBytes (out.map Int.ofNat)))
  | none => Failed e

theorem get_bs (l : List UInt8) (i : Nat) (h : i < l.length) : (bs l).get! i = l[i] := by
  show l.toArray.getD i default = l[i]
  simp [h]
theorem decode_ascii (l : List UInt8) (i : Nat) (h : i < l.length) (ha : l[i].toNat < 128) : Utf8.decode (bs l) i = (l[i].toNat, 1) := by
  have e := get_bs l i h
  generalize l[i] = c at *
  generalize bs l = s at *
  unfold Utf8.decode
  simp only [Nat.add_zero, e]
  exact if_pos ha
theorem runesFrom_ascii (l : List UInt8) (ha : ∀ c ∈ l, c.toNat < 128) : ∀ (f i : Nat) (acc : Array Value), i ≤ l.length → l.length - i ≤ f →
    Conv.runesFrom (bs l) f i acc = acc ++ (cellsRn ((l.drop i).map UInt8.toNat)).toArray
  | 0, i, acc, h1, h2 => by
    have : i = l.length := by omega
    subst this
    simp [Conv.runesFrom, cellsRn]
  | f + 1, i, acc, h1, h2 => by
    unfold Conv.runesFrom
    rw [bs_size]
    by_cases h : i < l.length
    · rw [if_pos h, decode_ascii l i h (ha _ (List.getElem_mem _))]
      show Conv.runesFrom (bs l) f (i + 1) _ = _
      rw [runesFrom_ascii l ha f (i + 1) _ (by omega) (by omega), List.drop_eq_getElem_cons h]
      generalize l.drop (i + 1) = r
      simp [cellsRn]
    · have : i = l.length := by omega
      subst this
      rw [if_neg h]
      simp [cellsRn]
/-- Plain characters as a row of characters. -/
theorem runes_conv (l : List UInt8) (ha : ∀ c ∈ l, c.toNat < 128) (hl : l.length ≤ 1000000) (W : World) :
    (convert 9 63 (.string (bs l))).run Try.prog W = .ok (.slice (some ⟨W.heap.size, 0, none⟩) l.length (grownCap W l.length 0 21))
      (W.drew.alloc (.cells ((cellsRn (l.map UInt8.toNat)).toArray ++ Array.replicate (grownCap W l.length 0 21 - l.length) (.int .i32 0)) 21)) := by
  have e := runesFrom_ascii l ha l.length 0 #[] (Nat.zero_le _) (by omega)
  rw [List.drop_zero, Array.empty_append] at e
  have hs : (cellsRn (l.map UInt8.toNat)).toArray.size = l.length := by simp [cellsRn]
  have := run_runes_of_string (P := Try.prog) W 9 63 21 (bs l) Try.underlying9 Try.underlying63 Try.underlying21 (by rw [bs_size, e, hs]; omega)
  rw [bs_size, e, hs] at this
  exact this
theorem runes_owns (l : List UInt8) (hl : l.length ≤ 1000000) (W : World) (base : Nat) (hb : base ≤ W.heap.size) :
    OwnsRn (W.drew.alloc (.cells ((cellsRn (l.map UInt8.toNat)).toArray ++ Array.replicate (grownCap W l.length 0 21 - l.length) (.int .i32 0)) 21)) base
      (.slice (some ⟨W.heap.size, 0, none⟩) l.length (grownCap W l.length 0 21)) (l.map UInt8.toNat) := by
  have h1 := grownCap_ge W l.length 0 21
  have h2 := grownCap_le_maxLen W l.length 0 21 (by unfold maxLen; omega)
  generalize grownCap W l.length 0 21 = cp at *
  refine ⟨by simp [cellsRn], .inr ⟨W.heap.size, cp, _, by simp, hb, heap_alloc_new _ _, by simpa using h1, h2, by simp [cellsRn]; omega, ?_⟩⟩
  simp [cellsRn]

theorem pdec_on {f pos : Nat} {enc : List UInt8} {n i bias : Nat} {out : List Nat} {res : Option (List Nat)} {hp : pos < enc.length} {ior : Option (Nat × List UInt8)}
    (hE : enc.drop pos = enc[pos] :: enc.drop (pos + 1)) (hior : pread (enc.drop pos) i 1 36 bias = ior) (h : pdec (f + 1) (enc.drop pos) n i bias out = res) :
    (ior = none → res = none) ∧ ∀ i' rest, ior = some (i', rest) → (pscalar (n + i' / (out.length + 1)) = false → res = none) ∧
      (pscalar (n + i' / (out.length + 1)) = true → pdec f rest (n + i' / (out.length + 1)) (i' % (out.length + 1) + 1) (padapt (i' - i) (out.length + 1) (decide (i = 0)))
          (out.take (i' % (out.length + 1)) ++ (n + i' / (out.length + 1)) :: out.drop (i' % (out.length + 1))) = res) := by
  rw [hE] at h hior
  rw [pdec, hior] at h
  cases ior with
  | none =>
    exact ⟨fun _ => h.symm, fun i' rest e => by cases e⟩
  | some r =>
    refine ⟨fun e => (by cases e), fun i' rest e => ?_⟩
    cases e
    simp only at h
    constructor
    · intro hs
      rw [if_neg (by rw [hs]; decide)] at h
      exact h.symm
    · intro hs
      rw [if_pos hs] at h
      exact h
theorem owns_runes {w : World} {base : Nat} {v : Value} {out : List Nat} (h : OwnsRn w base v out) : ∃ A c, v = .slice A out.length c ∧
    (convert 63 9 (.slice A out.length c)).run Try.prog w = .ok (.string (runesBytes (out.map Int.ofNat))) w := by
  have hc := fun g hg => World.ownsRow.cells h (g := g) hg
  rcases h.2 with ⟨h3, h4⟩ | ⟨g, cap, cur, rfl, hbg, hg, hn, hm, _⟩
  · have : out = [] := by simpa using h4
    subst this
    exact ⟨none, 0, h3, run_convert_runes_nil w _ _ 21 _ _ Try.underlying63 Try.underlying21 Try.underlying9⟩
  · refine ⟨_, cap, rfl, ?_⟩
    have := run_convert_runes w 63 9 21 ⟨g, 0, none⟩ out.length cap (out.map Int.ofNat) (by simp) Try.underlying63 Try.underlying21 Try.underlying9 (fun j hj => by
      rw [List.length_map] at hj
      have k := hc g rfl j (.int .i32 (Int.ofNat out[j])) (by simp [cellsRn, hj])
      rw [k]
      simp [List.getD, hj])
    rw [List.take_of_length_le (by simp)] at this
    exact this

theorem runeInfo : (Try.prog.info? 21).map (fun i => (i.zero, i.size, i.bytes)) = some (some (.int .i32 0), 1, 4) := by kernel_rfl
theorem runes_at {w : World} {base m : Nat} {v : Value} {out : List Nat} (h : OwnsRn w base v out) (hm : out.length = m) : w.ownsRow base 21 1 v m (cellsRn out) := by
  subst hm; exact h
theorem runes_new {w : World} {base m : Nat} {v : Value} {xs : List Value} (h : w.ownsRow base 21 1 v (m + 1) xs) :
    ∃ g cap cur, v = .slice (some ⟨g, 0, none⟩) (m + 1) cap ∧ base ≤ g ∧ w.heap[g]? = some (.cells cur 21 (0, 0)) ∧ m + 1 ≤ cap ∧ cap ≤ maxLen ∧ cur.size = cap ∧ cur.toList.take (m + 1) = xs := by
  rcases h.2 with ⟨_, h⟩ | ⟨g, cap, cur, hv, hb, hg, h1, h2, h3, h4⟩
  · omega
  · exact ⟨g, cap, cur, hv, hb, hg, h1, h2, by omega, by simpa using h4⟩
theorem splice_ins {α : Type} (L C R : List α) (z x : α) (J : Nat) (hJ : J ≤ C.length) (hL : L = C ++ [z] ++ R) :
    (splice L (J + 1) (C.drop J)).set J x = C.take J ++ x :: (C.drop J ++ R) := by
  obtain ⟨C1, C2, rfl, rfl⟩ : ∃ C1 C2, C = C1 ++ C2 ∧ C1.length = J := ⟨C.take J, C.drop J, (List.take_append_drop J C).symm, by simp; omega⟩
  rw [List.drop_left, List.take_left]
  obtain ⟨y, T, hT⟩ : ∃ y T, C2 ++ [z] = y :: T := by
    cases C2 with
    | nil => exact ⟨z, [], rfl⟩
    | cons y T => exact ⟨y, T ++ [z], rfl⟩
  have hTl : T.length = C2.length := by have := congrArg List.length hT; simp at this; omega
  have hL2 : L = C1 ++ y :: (T ++ R) := by rw [hL, List.append_assoc C1, hT]; simp
  have e1 : L.take (C1.length + 1) = C1 ++ [y] := by rw [hL2, show C1 ++ y :: (T ++ R) = (C1 ++ [y]) ++ (T ++ R) by simp, List.take_left' (by simp)]
  have e2 : L.drop (C1.length + 1 + C2.length) = R := by
    rw [hL2, show C1.length + 1 + C2.length = C1.length + (1 + C2.length) by omega, List.drop_append, Nat.add_comm 1]
    simp [← hTl]
  unfold splice
  rw [e1, e2]
  simp

theorem runes_read {out : List Nat} {J j : Nat} {v z : Value} {R : List Value} (hj : (cellsRn (out.drop J))[j]? = some v) : (cellsRn out ++ [z] ++ R)[J + j]? = some v := by
  unfold cellsRn at *
  rw [List.map_drop, List.getElem?_drop] at hj
  have hlt : J + j < (out.map fun n => Value.int .i32 (Int.ofNat n)).length := by
    rcases Nat.lt_or_ge (J + j) (out.map fun n => Value.int .i32 (Int.ofNat n)).length with h | h
    · exact h
    · rw [List.getElem?_eq_none h] at hj; cases hj
  rw [List.append_assoc, List.getElem?_append_left hlt]
  exact hj
theorem runes_one (out : List Nat) : ∀ v ∈ cellsRn out, v.oneCell' = true := by
  intro v hv
  obtain ⟨n, _, rfl⟩ := List.mem_map.1 hv
  rfl

theorem runes_end {w : World} {base g J cp : Nat} {L R : List Value} {out : List Nat} (hw : w.heap[g]? = some (.cells (splice L (J + 1) (cellsRn (out.drop J))).toArray 21 (0, 0)))
    (hL : L = cellsRn out ++ [Value.int .i32 0] ++ R) (hJ : J ≤ out.length) (hc : out.length + 1 ≤ cp) (hm : cp ≤ maxLen) (hl : (splice L (J + 1) (cellsRn (out.drop J))).length = cp) (hb : base ≤ g) (N : Nat) :
    OwnsRn (w.setCell ⟨g, J, none⟩ (.int .i32 (N : Int))) base (.slice (some ⟨g, 0, none⟩) (out.length + 1) cp) (out.take J ++ N :: out.drop J) := by
  have hlen : (out.take J ++ N :: out.drop J).length = out.length + 1 := by simp; omega
  have hdr : cellsRn (out.drop J) = (cellsRn out).drop J := by simp [cellsRn]
  have hsp := splice_ins L (cellsRn out) R (.int .i32 0) (.int .i32 (N : Int)) J (by rw [cellsRn_len]; exact hJ) hL
  unfold OwnsRn
  rw [hlen]
  refine ⟨by rw [cellsRn_len, hlen, Nat.mul_one], .inr ⟨g, cp, ((splice L (J + 1) (cellsRn (out.drop J))).set J (.int .i32 (N : Int))).toArray, rfl, hb, ?_, hc, hm, by simp [hl], ?_⟩⟩
  · simp [World.setCell, Array.getElem?_modify, hw]
  · rw [hdr, hsp, Nat.mul_one]
    have e : (cellsRn out).take J ++ Value.int .i32 (N : Int) :: ((cellsRn out).drop J ++ R) = cellsRn (out.take J ++ N :: out.drop J) ++ R := by simp [cellsRn]
    rw [e, List.take_left' (by rw [cellsRn_len, hlen])]

theorem runes_end2 {w : World} {base g J cp m : Nat} {L R : List Value} {out : List Nat} (hml : out.length = m) (hw : w.heap[g]? = some (.cells (splice L (J + 1) (cellsRn (out.drop J))).toArray 21 (0, 0)))
    (hL : L = cellsRn out ++ [Value.int .i32 0] ++ R) (hJ : J ≤ out.length) (hc : out.length + 1 ≤ cp) (hm : cp ≤ maxLen) (hl : (splice L (J + 1) (cellsRn (out.drop J))).length = cp) (hb : base ≤ g) (N : Nat) (c : Nat) (e : cp = c) :
    OwnsRn (w.setCell ⟨g, J, none⟩ (.int .i32 (N : Int))) base (.slice (some ⟨g, 0, none⟩) (m + 1) c) (out.take J ++ N :: out.drop J) := by
  subst e hml
  exact runes_end hw hL hJ hc hm hl hb N
theorem rn_add (g J j : Nat) : (⟨g, J, none⟩ : Addr).add j = ⟨g, J + j, none⟩ := by unfold Addr.add; split <;> simp_all
def OutRel (w : World) (enc : List UInt8) (res : Option (List Nat)) (g : Nat) (v si sn sb sp : Value) (wr : World) : Prop :=
  ∃ (i n bias pos : Nat) (out : List Nat) (f : Nat), si = .int .i64 (i : Int) ∧ sn = .int .i64 (n : Int) ∧ sb = .int .i64 (bias : Int) ∧ sp = .int .i64 (pos : Int) ∧ pos + g = enc.length ∧ g ≤ f ∧
    Hid (pdec f (enc.drop pos) n i bias out = res) ∧ pos ≤ enc.length ∧ i ≤ out.length ∧ n ≤ 1114111 ∧ out.length ≤ 1000000 + pos ∧ bias ≤ 100000000000000 ∧ OwnsRn wr w.heap.size v out ∧ Below w.heap.size w wr

theorem drop_get {enc : List UInt8} {p1 : Nat} (hp1 : p1 < enc.length) (hq1 : p1 < (bs enc).size) : ∃ c, enc.drop p1 = c :: enc.drop (p1 + 1) ∧ (bs enc)[p1]'hq1 = c :=
  ⟨_, List.drop_eq_getElem_cons hp1, bs_get enc p1 hq1⟩
theorem fell_end {w wr : World} {res : Option (List Nat)} {m : ByteArray} {o : Int} (hb : Below w.heap.size w wr) (h : res = none) :
    PunyEnd w res (.panicked [{ v := .iface 55 (.agg #[.string m, .int .i64 o]), recovered := false }]) wr := by
  subst h
  exact ⟨hb, m, o, rfl⟩
def InRel (enc : List UInt8) (ior : Option (Nat × List UInt8)) (bias pos i : Nat) (wr : World) (g : Nat) (si sp sw sk : Value) (wx : World) : Prop :=
  ∃ (i1 p1 w1 k1 : Nat), si = .int .i64 (i1 : Int) ∧ sp = .int .i64 (p1 : Int) ∧ sw = .int .i64 (w1 : Int) ∧ sk = .int .i64 (k1 : Int) ∧ p1 + g = enc.length ∧ pos ≤ p1 ∧
    Hid (pread (enc.drop p1) i1 w1 k1 bias = ior) ∧ i1 ≤ 2000000 + 4 * w1 ∧ w1 ≤ 59652322 * 35 ∧ k1 ≤ 36 * (p1 + 1) ∧ i ≤ i1 ∧ wr = wx

set_option maxHeartbeats 4000000 in
theorem expand_any {w : World} {b : Nat} {st : St} (h : Rst w b st) (l pre enc : List UInt8) (hl : l.length ≤ 1000000) (hin : PunyIn l pre enc) :
    Calls Try.prog 25 #[.pointer (some ⟨b, 0, none⟩), .string (bs l)] w (PunyEnd w (pdec enc.length enc 128 0 72 (pre.map UInt8.toNat))) := by
  have HL := Lib.hid (fun W => Try.strings_LastIndex (bs l) (bs [95]) (by rw [bs_size]; omega) W)
  rw [bs_data, bs_data] at HL
  have hpl : pre.length ≤ 1000000 ∧ enc.length ≤ 1000000 := by
    rcases hin with ⟨h1, h2, h3⟩ | ⟨h1, h2, h3⟩
    · rw [h2] at hl; simp at hl; omega
    · rw [h2, h3]; simp; omega
  obtain ⟨i0, hi0, hz0, hz1, hz2⟩ := info_parts runeInfo
  have HI := Lib.hid hin
  have HR := Lib.hid h
  have hB := Below.refl w.heap.size w
  obtain ⟨res, hres⟩ : ∃ r, pdec enc.length enc 128 0 72 (pre.map UInt8.toNat) = r := ⟨_, rfl⟩
  rw [hres]
  have hRes := Lib.hid hres
  unfold PunyIn at HI
  obtain ⟨x, hx⟩ : ∃ x, Lib.lastIndex l [95] = x := ⟨_, rfl⟩
  rw [hx] at HL HI
  clear h hin hres hx
  go_enter Try.func25, Try.ntmps25
  go_upto_if 25 with (go_at_call 30; refine (HL.out _).mono ?_; rintro e w2 ⟨rfl, rfl⟩)
  go_cut [5, 6] (fun v s wc => s = .string (bs enc) ∧ OwnsRn wc w2.heap.size v (pre.map UInt8.toNat) ∧ Below w2.heap.size w2 wc)
  case first =>
    rcases HI.out with ⟨h1, h2, h3⟩ | ⟨h1, h2, h3⟩
    · have t1 : 0 ≤ x := by omega
      have t2 : x ≤ (l.length : Int) := by rw [h1, h2]; simp; omega
      have t3 : x + 1 ≤ (l.length : Int) := by rw [h1, h2]; simp; omega
      have t4 : wrap64 (x + 1) = x + 1 := by unfold wrap64; omega
      have hs1 : (bs l).extract 0 x.toNat = bs pre := by rw [h1, h2, Int.toNat_natCast, bs_to]; simp
      have hs2 : (bs l).extract (x + 1).toNat l.length = bs enc := by
        have e : (x + 1).toNat = pre.length + 1 := by omega
        rw [e, bs_from, h2, List.append_cons, List.drop_left' (by simp)]
      have hcv := runes_conv pre h3 hpl.1
      have HO := Lib.hid (fun W => runes_owns pre hpl.1 W)
      clear h1 h2 h3
      go_wp2_with fail
      go_meet
      exact ⟨rfl, HO.out _ _ (Nat.le_refl _), ((Below.refl _ _).drew).alloc (Nat.le_refl _) _⟩
    · have t1 : ¬ 0 ≤ x := by omega
      replace h2 := Lib.hid h2
      replace h3 := Lib.hid h3
      clear h1
      go_wp2
      go_meet
      refine ⟨by rw [h2.out], ?_, hB⟩
      rw [h3.out]
      exact ⟨rfl, .inl ⟨rfl, rfl⟩⟩
  case rest =>
    obtain ⟨rfl, hown, hb⟩ := hcut
    replace hown := Lib.hid hown
    go_wp2_with fail
    go_loopg [5, 8, 9, 10, 11] enc.length (fun g v si sn sb sp wr => OutRel w2 enc res g v si sn sb sp wr)
    case atStart => exact ⟨0, 128, 72, 0, _, enc.length, rfl, rfl, rfl, rfl, by omega, by omega, by rw [List.drop_zero]; exact hRes, by omega, by simp, by omega, by simp; omega, by omega, hown.out, hb⟩
    case round =>
      obtain ⟨i, n, bias, pos, out, f, rfl, rfl, rfl, rfl, hg, hf, hdec, hi, hil, hn, hol, hbi, hown, hb⟩ := hrel
      by_cases hp : pos < enc.length
      · have hE := Lib.hid (List.drop_eq_getElem_cons hp)
        obtain ⟨f, rfl⟩ : ∃ f', f = f' + 1 := ⟨f - 1, by omega⟩
        obtain ⟨ior, hior⟩ : ∃ r, pread (enc.drop pos) i 1 36 bias = r := ⟨_, rfl⟩
        have hdec2 := Lib.hid (pdec_on hE.out hior hdec.out)
        replace hior := Lib.hid hior
        have hbw := Lib.hid hb
        have hol2 : out.length ≤ 2000000 := by omega
        clear hb hdec
        go_upto_block 2 with fail
        go_cut [8, 11] (fun si sp wc => ∃ (i2 : Nat) (p2 : Nat), si = .int .i64 (i2 : Int) ∧ sp = .int .i64 (p2 : Int) ∧ Hid (ior = some (i2, enc.drop p2)) ∧ p2 ≤ enc.length ∧ pos < p2 ∧ i2 ≤ 10000000000000 ∧ i ≤ i2 ∧ wr = wc)
        case first =>
          replace hE := hE
          go_wp2_with fail
          go_loopg [8, 11, 13, 14] (enc.length - pos) (fun g si sp sw sk wx => InRel enc ior bias pos i wr g si sp sw sk wx)
          case atStart => exact ⟨i, pos, 1, 36, rfl, rfl, rfl, rfl, by omega, by omega, hior, by omega, by omega, by omega, by omega, rfl⟩
          case round =>
            obtain ⟨i1, p1, w1, k1, rfl, rfl, rfl, rfl, hg1, hpp1, hrd, hi1, hw1, hk1, hii1, rfl⟩ := hrel
            by_cases hp1 : p1 < enc.length
            · have hq1 : p1 < (bs enc).size := by rw [bs_size]; exact hp1
              obtain ⟨c, hE1, hget⟩ := drop_get hp1 hq1
              have e : ((p1 : Int) == (enc.length : Int)) = false := by simp; omega
              have HR1 := Lib.hid (rst_below HR.out hbw.out)
              rw [hE1] at hrd
              replace hE1 := Lib.hid hE1
              clear hE hior hp
              go_upto_block 4 with fail
              go_cut [15] (fun d wc => ∃ dn : Nat, d = .int .u8 (dn : Int) ∧ pdig c = some dn ∧ wr = wc)
              case first =>
                have h7 : (c.toNat < 48) ∨ (48 ≤ c.toNat ∧ c.toNat ≤ 57) ∨ (58 ≤ c.toNat ∧ c.toNat ≤ 64) ∨ (65 ≤ c.toNat ∧ c.toNat ≤ 90) ∨ (91 ≤ c.toNat ∧ c.toNat ≤ 96) ∨ (97 ≤ c.toNat ∧ c.toNat ≤ 122) ∨ (123 ≤ c.toNat) := by omega
                rcases h7 with hx | hx | hx | hx | hx | hx | hx
                · as_aux_lemma =>
                  have t0 : ¬ (48 : Int) ≤ (c.toNat : Int) := by omega
                  have t1 : ¬ (65 : Int) ≤ (c.toNat : Int) := by omega
                  have t2 : ¬ (97 : Int) ≤ (c.toNat : Int) := by omega
                  have hno := Lib.hid (hdec2.out.1 (hrd.out.symm.trans (pread_bad (pdig_none (by omega)))))
                  clear hx hrd hdec2 hE1 hget
                  go_wp2_with (go_at_call 31; refine (fail_any HR1.out _).mono ?_; rintro e w2 ⟨⟨_, _, rfl⟩, rfl⟩)
                  exact ⟨rfl, fell_end hbw.out hno.out⟩
                · as_aux_lemma =>
                  have t0 : (48 : Int) ≤ (c.toNat : Int) := by omega
                  have t1 : (c.toNat : Int) ≤ 57 := by omega
                  have hd : pdig c = some (c.toNat - 48 + 26) := pdig_some1 (by omega)
                  clear hx hrd hdec2 hE1 hget
                  go_wp2
                  go_meet
                  exact ⟨c.toNat - 48 + 26, congrArg (Value.int .u8) (by first | omega | (simp only [IntKind.wrap_u8]; omega)), hd, rfl⟩
                · as_aux_lemma =>
                  have t0 : (48 : Int) ≤ (c.toNat : Int) := by omega
                  have t1 : ¬ (c.toNat : Int) ≤ 57 := by omega
                  have t2 : ¬ (65 : Int) ≤ (c.toNat : Int) := by omega
                  have t3 : ¬ (97 : Int) ≤ (c.toNat : Int) := by omega
                  have hno := Lib.hid (hdec2.out.1 (hrd.out.symm.trans (pread_bad (pdig_none (by omega)))))
                  clear hx hrd hdec2 hE1 hget
                  go_wp2_with (go_at_call 31; refine (fail_any HR1.out _).mono ?_; rintro e w2 ⟨⟨_, _, rfl⟩, rfl⟩)
                  exact ⟨rfl, fell_end hbw.out hno.out⟩
                · as_aux_lemma =>
                  have t0 : (48 : Int) ≤ (c.toNat : Int) := by omega
                  have t1 : ¬ (c.toNat : Int) ≤ 57 := by omega
                  have t2 : (65 : Int) ≤ (c.toNat : Int) := by omega
                  have t3 : (c.toNat : Int) ≤ 90 := by omega
                  have hd : pdig c = some (c.toNat - 65) := pdig_some2 (by omega)
                  clear hx hrd hdec2 hE1 hget
                  go_wp2
                  go_meet
                  exact ⟨c.toNat - 65, congrArg (Value.int .u8) (by first | omega | (simp only [IntKind.wrap_u8]; omega)), hd, rfl⟩
                · as_aux_lemma =>
                  have t0 : (48 : Int) ≤ (c.toNat : Int) := by omega
                  have t1 : ¬ (c.toNat : Int) ≤ 57 := by omega
                  have t2 : (65 : Int) ≤ (c.toNat : Int) := by omega
                  have t3 : ¬ (c.toNat : Int) ≤ 90 := by omega
                  have t4 : ¬ (97 : Int) ≤ (c.toNat : Int) := by omega
                  have hno := Lib.hid (hdec2.out.1 (hrd.out.symm.trans (pread_bad (pdig_none (by omega)))))
                  clear hx hrd hdec2 hE1 hget
                  go_wp2_with (go_at_call 31; refine (fail_any HR1.out _).mono ?_; rintro e w2 ⟨⟨_, _, rfl⟩, rfl⟩)
                  exact ⟨rfl, fell_end hbw.out hno.out⟩
                · as_aux_lemma =>
                  have t0 : (48 : Int) ≤ (c.toNat : Int) := by omega
                  have t1 : ¬ (c.toNat : Int) ≤ 57 := by omega
                  have t2 : (65 : Int) ≤ (c.toNat : Int) := by omega
                  have t3 : ¬ (c.toNat : Int) ≤ 90 := by omega
                  have t4 : (97 : Int) ≤ (c.toNat : Int) := by omega
                  have t5 : (c.toNat : Int) ≤ 122 := by omega
                  have hd : pdig c = some (c.toNat - 97) := pdig_some3 (by omega)
                  clear hx hrd hdec2 hE1 hget
                  go_wp2
                  go_meet
                  exact ⟨c.toNat - 97, congrArg (Value.int .u8) (by first | omega | (simp only [IntKind.wrap_u8]; omega)), hd, rfl⟩
                · as_aux_lemma =>
                  have t0 : (48 : Int) ≤ (c.toNat : Int) := by omega
                  have t1 : ¬ (c.toNat : Int) ≤ 57 := by omega
                  have t2 : (65 : Int) ≤ (c.toNat : Int) := by omega
                  have t3 : ¬ (c.toNat : Int) ≤ 90 := by omega
                  have t4 : (97 : Int) ≤ (c.toNat : Int) := by omega
                  have t5 : ¬ (c.toNat : Int) ≤ 122 := by omega
                  have hno := Lib.hid (hdec2.out.1 (hrd.out.symm.trans (pread_bad (pdig_none (by omega)))))
                  clear hx hrd hdec2 hE1 hget
                  go_wp2_with (go_at_call 31; refine (fail_any HR1.out _).mono ?_; rintro e w2 ⟨⟨_, _, rfl⟩, rfl⟩)
                  exact ⟨rfl, fell_end hbw.out hno.out⟩
              case rest =>
                obtain ⟨dn, rfl, hdn, rfl⟩ := hcut
                have hdl := pdig_lt hdn
                obtain ⟨m, hm⟩ : ∃ m : Nat, dn * w1 = m := ⟨_, rfl⟩
                have hmw : m ≤ 35 * w1 := by rw [← hm]; exact Nat.mul_le_mul_right _ hdl
                have hmI : (dn : Int) * (w1 : Int) = (m : Int) := by rw [← hm]; simp
                have tneg : ¬ ((i1 : Int) + (m : Int) < 0) := by omega
                clear e hget hq1
                go_upto_if 95 with fail
                go_cut [17] (fun t wc => t = .int .i64 (pthr k1 bias : Int) ∧ wr = wc)
                case first =>
                  clear hrd hdec2 hE1 hm hmw hmI
                  by_cases h1 : k1 ≤ bias
                  · have e1 : Hid (pthr k1 bias = 1) := Lib.hid (by unfold pthr; rw [if_pos h1])
                    have t1 : (k1 : Int) ≤ (bias : Int) := by omega
                    clear h1
                    go_wp2
                    go_meet
                    exact ⟨by rw [e1.out]; rfl, rfl⟩
                  · have t1 : ¬ (k1 : Int) ≤ (bias : Int) := by omega
                    by_cases h2 : k1 > bias + 26
                    · have e1 : Hid (pthr k1 bias = 26) := Lib.hid (by unfold pthr; rw [if_neg h1, if_pos h2])
                      have t2 : (k1 : Int) > (bias : Int) + 26 := by omega
                      clear h1 h2
                      go_wp2
                      go_meet
                      exact ⟨by rw [e1.out]; rfl, rfl⟩
                    · have e1 : Hid (pthr k1 bias = k1 - bias) := Lib.hid (by unfold pthr; rw [if_neg h1, if_neg h2])
                      have e2 : ((k1 - bias : Nat) : Int) = (k1 : Int) - (bias : Int) := by omega
                      replace e2 := Lib.hid e2
                      have t2 : ¬ (k1 : Int) > (bias : Int) + 26 := by omega
                      clear h1 h2
                      go_wp2
                      go_meet
                      exact ⟨by rw [e1.out, e2.out], rfl⟩
                case rest =>
                  obtain ⟨rfl, rfl⟩ := hcut
                  have hTb := pthr_le k1 bias
                  obtain ⟨T, hT⟩ : ∃ T, pthr k1 bias = T := ⟨_, rfl⟩
                  rw [hT] at hTb ⊢
                  replace hT := Lib.hid hT
                  replace hm := Lib.hid hm
                  replace hdn := Lib.hid hdn
                  by_cases hd : dn < T
                  · have tI : (dn : Int) < (T : Int) := by omega
                    have hend := Lib.hid (hrd.out.symm.trans (pread_end hdn.out (by rw [hT.out]; exact hd)))
                    clear hrd hE1 hdec2 hd
                    go_wp2_with fail
                    go_meet
                    exact ⟨i1 + m, p1 + 1, by push_cast; rfl, by push_cast; rfl, Lib.hid (by rw [hend.out, hm.out]), by omega, by omega, by omega, by omega, rfl⟩
                  · have tI : ¬ (dn : Int) < (T : Int) := by omega
                    by_cases hw : 59652323 ≤ w1
                    · have tw : (w1 : Int) ≥ 59652323 := by omega
                      have hno := Lib.hid (hdec2.out.1 (hrd.out.symm.trans (pread_big hdn.out (by rw [hT.out]; exact hd) hw)))
                      clear hrd hE1 hdec2 hd hw
                      go_wp2_with (go_at_call 31; refine (fail_any HR1.out _).mono ?_; rintro e w2 ⟨⟨_, _, rfl⟩, rfl⟩)
                      exact ⟨rfl, fell_end hbw.out hno.out⟩
                    · have tw : ¬ (w1 : Int) ≥ 59652323 := by omega
                      have hon := hrd.out.symm.trans (pread_on hdn.out (by rw [hT.out]; exact hd) hw)
                      rw [hT.out, hm.out] at hon
                      obtain ⟨m2, hm2⟩ : ∃ m2 : Nat, w1 * (36 - T) = m2 := ⟨_, rfl⟩
                      rw [hm2] at hon
                      have b1 : 10 * w1 ≤ m2 := by rw [← hm2, Nat.mul_comm]; exact Nat.mul_le_mul_left _ (by omega)
                      have b2 : m2 ≤ 35 * w1 := by rw [← hm2, Nat.mul_comm 35]; exact Nat.mul_le_mul_left _ (by omega)
                      have hm2I : (w1 : Int) * (36 - (T : Int)) = (m2 : Int) := by rw [← hm2, show (36 - (T : Int)) = ((36 - T : Nat) : Int) by omega]; simp
                      replace hm2 := Lib.hid hm2
                      replace hon := Lib.hid hon.symm
                      clear hrd hE1 hdec2 hd hw
                      go_wp2_with fail
                      go_roundg (enc.length - (p1 + 1))
                      case measure => omega
                      case rel => exact ⟨i1 + m, p1 + 1, m2, k1 + 36, by push_cast; rfl, by push_cast; rfl, rfl, by push_cast; rfl, by omega, by omega, hon, by omega, by omega, by omega, by omega, rfl⟩
            · have e : (p1 : Int) = (enc.length : Int) := by omega
              obtain rfl : p1 = enc.length := by omega
              have HR1 := Lib.hid (rst_below HR.out hbw.out)
              have hno := Lib.hid (hdec2.out.1 (hrd.out.symm.trans (by rw [List.drop_length]; rfl)))
              clear hior hrd hdec2
              go_wp2_with (go_at_call 31; refine (fail_any HR1.out _).mono ?_; rintro e w2 ⟨⟨_, _, rfl⟩, rfl⟩)
              exact ⟨rfl, fell_end hbw.out hno.out⟩
        case rest =>
          obtain ⟨i2, p2, rfl, rfl, hio2, hp2, hpp, hi2, hii, rfl⟩ := hcut
          obtain ⟨A, cp, hv, -⟩ := owns_runes hown
          subst hv
          have hyes := Lib.hid (hdec2.out.2 i2 _ hio2.out)
          obtain ⟨m, hm⟩ : ∃ m, out.length = m := ⟨_, rfl⟩
          rw [hm] at hyes hol hil hol2 hown ⊢
          replace hown := Lib.hid hown
          replace hm := Lib.hid hm
          obtain ⟨D0, hD0⟩ : ∃ d, i2 - i = d := ⟨_, rfl⟩
          have e0 : (i2 : Int) - (i : Int) = (D0 : Int) := by omega
          rw [hD0] at hyes
          have hD0b : D0 ≤ 10000000000000 := by omega
          clear hE hior hdec2 hio2 hp hD0 hii
          go_upto_if 123 with fail
          go_cut [18] (fun d wc => ∃ D1 : Nat, d = .int .i64 (D1 : Int) ∧ D1 = (if decide (i = 0) = true then D0 / 700 else D0 / 2) ∧ wr = wc)
          case first =>
            by_cases hi0 : i = 0
            · have t0 : ((i : Int) == 0) = true := by simp; omega
              have hdv : Int.tdiv (D0 : Int) 700 = ((D0 / 700 : Nat) : Int) := rfl
              have e1 := Lib.hid (decide_eq_true hi0)
              clear hi0
              go_wp2
              go_meet
              exact ⟨D0 / 700, by first | rfl | (push_cast; rfl), by rw [e1.out]; rfl, rfl⟩
            · have t0 : ((i : Int) == 0) = false := by simp; omega
              have hdv : Int.tdiv (D0 : Int) 2 = ((D0 / 2 : Nat) : Int) := rfl
              have e1 := Lib.hid (decide_eq_false hi0)
              clear hi0
              go_wp2
              go_meet
              exact ⟨D0 / 2, by first | rfl | (push_cast; rfl), by rw [e1.out]; rfl, rfl⟩
          case rest =>
            obtain ⟨D1, rfl, hD1, rfl⟩ := hcut
            have hD1b : D1 ≤ 5000000000000 := by rw [hD1]; split <;> omega
            replace hD1 := Lib.hid hD1
            obtain ⟨D2, hD2⟩ : ∃ d, D1 / (m + 1) = d := ⟨_, rfl⟩
            have hD2b : D2 ≤ D1 := by rw [← hD2]; exact Nat.div_le_self _ _
            have hdv : Int.tdiv (D1 : Int) ((m : Int) + 1) = (D2 : Int) := by rw [← hD2]; rfl
            replace hD2 := Lib.hid hD2
            have hbi2 := Lib.hid (padapt_eq (m := m + 1) hD1.out hD2.out)
            go_upto_block 5 with fail
            go_cut [18, 21] (fun d k wc => ∃ D K : Nat, d = .int .i64 (D : Int) ∧ k = .int .i64 (K : Int) ∧ D ≤ 455 ∧ K ≤ 20000000000000 ∧ Hid (pbias (D1 + D2) 0 = K + 36 * D / (D + 38)) ∧ wr = wc)
            case first =>
              go_wp2_with fail
              go_loopg [18, 21] (D1 + D2) (fun g d k wx => ∃ D K : Nat, d = .int .i64 (D : Int) ∧ k = .int .i64 (K : Int) ∧ Hid (D = g) ∧ K + D ≤ 10000000000000 ∧ Hid (pbias (D1 + D2) 0 = pbias D K) ∧ wr = wx)
              case atStart => exact ⟨D1 + D2, 0, by push_cast; rfl, rfl, Lib.hid rfl, by omega, Lib.hid rfl, rfl⟩
              case round =>
                obtain ⟨D, K, rfl, rfl, hDg, hKD, hpb, rfl⟩ := hrel
                by_cases hD : 455 < D
                · have t0 : (D : Int) > 455 := by omega
                  have hdv2 : Int.tdiv (D : Int) 35 = ((D / 35 : Nat) : Int) := rfl
                  have hstep := Lib.hid (hpb.out.trans (pbias_big hD))
                  go_wp2_with fail
                  go_roundg (D / 35)
                  case measure => (have := hDg.out; omega)
                  case rel => exact ⟨D / 35, K + 36, by first | rfl | (push_cast; rfl), by push_cast; rfl, Lib.hid rfl, by omega, hstep, rfl⟩
                · have t0 : ¬ (D : Int) > 455 := by omega
                  have hstep := Lib.hid (hpb.out.trans (pbias_small hD))
                  go_wp2_with fail
                  go_meet
                  exact ⟨D, K, rfl, rfl, by omega, by omega, hstep, rfl⟩
            case rest =>
              obtain ⟨D, K, rfl, rfl, hD, hK, hbi3, rfl⟩ := hcut
              obtain ⟨Q, hQ⟩ : ∃ d, 36 * D / (D + 38) = d := ⟨_, rfl⟩
              have hQb : Q ≤ 36 := by rw [← hQ]; exact Nat.le_of_lt_succ ((Nat.div_lt_iff_lt_mul (by omega)).2 (by omega))
              have hqv : Int.tdiv (36 * (D : Int)) ((D : Int) + 38) = (Q : Int) := by rw [← hQ]; rfl
              obtain ⟨N2, hN2⟩ : ∃ d, i2 / (m + 1) = d := ⟨_, rfl⟩
              have hN2b : N2 ≤ i2 := by rw [← hN2]; exact Nat.div_le_self _ _
              have hnv : Int.tdiv (i2 : Int) ((m : Int) + 1) = (N2 : Int) := by rw [← hN2]; rfl
              obtain ⟨J, hJ⟩ : ∃ d, i2 % (m + 1) = d := ⟨_, rfl⟩
              have hJb : J ≤ m := by rw [← hJ]; exact Nat.le_of_lt_succ (Nat.mod_lt _ (by omega))
              have hjv : Int.tmod (i2 : Int) ((m : Int) + 1) = (J : Int) := by rw [← hJ]; rfl
              have hbi4 := hbi2.out.trans hbi3.out
              rw [hQ] at hbi4
              have hy := hyes.out
              rw [hN2, hJ, hbi4] at hy
              have hyes2 := Lib.hid hy
              have HR1 := Lib.hid (rst_below HR.out hbw.out)
              have HV := Lib.hid (fun (r : Int) (W : World) => Try.utf8_ValidRune r W)
              clear hyes hy hQ hN2 hJ hbi2 hbi3 hbi4 hD1 hD2 hdv
              by_cases hbig : 1114111 < n + N2
              · have t0 : (n : Int) + (N2 : Int) > 1114111 := by omega
                have hno := Lib.hid (hyes2.out.1 (pscalar_big hbig))
                clear hyes2 hbig
                go_wp2_with (go_at_call 31; refine (fail_any HR1.out _).mono ?_; rintro e w2 ⟨⟨_, _, rfl⟩, rfl⟩)
                exact ⟨rfl, fell_end hbw.out hno.out⟩
              · have t0 : ¬ (n : Int) + (N2 : Int) > 1114111 := by omega
                go_upto_region 57 with fail
                obtain ⟨N3, hN3⟩ : ∃ d, n + N2 = d := ⟨_, rfl⟩
                obtain ⟨B3, hB3⟩ : ∃ d, K + Q = d := ⟨_, rfl⟩
                have eN : (n : Int) + (N2 : Int) = (N3 : Int) := by omega
                have eB : (K : Int) + (Q : Int) = (B3 : Int) := by omega
                rw [hN3, hB3] at hyes2
                rw [eN, eB]
                have hN3b : N3 ≤ 1114111 := by omega
                have hB3b : B3 ≤ 100000000000000 := by omega
                have HV2 := Lib.hid (fun (W : World) => (HV.out (N3 : Int) W).mono fun e w' h => (show e = .returned (.bool (pscalar N3)) ∧ W = w' from ⟨by rw [h.1, validRune_nat], h.2.symm⟩))
                have hcv3 : IntKind.i32.wrap (N3 : Int) = (N3 : Int) := by rw [IntKind.wrap_i32]; omega
                clear eN eB hN3 hB3 t0 hbig HV hqv hnv
                cases hps : pscalar N3 with
                | false =>
                  rw [hps] at HV2
                  have hno := Lib.hid (hyes2.out.1 hps)
                  clear hyes2 hps
                  go_wp2_with (first
                    | (go_at_call 32; refine (HV2.out _).mono ?_; rintro e w2 ⟨rfl, rfl⟩)
                    | (go_at_call 31; refine (fail_any HR1.out _).mono ?_; rintro e w2 ⟨⟨_, _, rfl⟩, rfl⟩))
                  exact ⟨rfl, fell_end hbw.out hno.out⟩
                | true =>
                  rw [hps] at HV2
                  have hgo := Lib.hid (hyes2.out.2 hps)
                  clear hyes2 hps
                  go_upto_region 60 with (go_at_call 32; refine (HV2.out _).mono ?_; rintro e w2 ⟨rfl, rfl⟩)
                  have hbase := hbw.out.size
                  go_wp2_with (at_builtin; refine wpList_append_own _ rfl _ _ 63 rfl w2.heap.size 21 i0 (.int .i32 0) 1 4 Try.underlying63 hi0 hz0 hz1 hz2 rfl (by decide) _ _ _ rfl ((runes_at hown.out hm.out).alloc _) ⟨wr.heap.size, 0, none⟩ 1 1 [.int .i32 0] rfl rfl ?c1 ?c2 ?c3 ?c4 ?c5 ?_)
                  case c1 =>
                    intro j u hj
                    have hb := (Blk.new wr 21 #[.int .i32 0]).cell j
                    match j, hj with
                    | 0, hj => exact hb.trans hj
                  case c2 => intro u hu; simp at hu; subst hu; rfl
                  case c3 => unfold maxLen; omega
                  case c4 => omega
                  case c5 => simp; omega
                  intro v5 w5 hown5 hgrow5 _
                  have hb5 : Below w2.heap.size w2 w5 := (hbw.out.alloc hbase _).grown hgrow5 (by simp; omega) (fun j hj => (World.ownsRow.lt (runes_at hown.out hm.out) j hj).1)
                  obtain ⟨g5, cp5, cur5, rfl, hgb5, hg5, hc5, hm5, hs5, ht5⟩ := runes_new hown5
                  clear hown5 hgrow5
                  obtain ⟨L5, rfl⟩ : ∃ L, cur5 = List.toArray L := ⟨cur5.toList, by simp⟩
                  have s0 : (0 : Int) ≤ (J : Int) + 1 := by omega
                  have s1 : (J : Int) + 1 ≤ (m : Int) + 1 := by omega
                  have s2 : (J : Int) ≤ (m : Int) + 1 := by omega
                  have s3 : (m : Int) + 1 ≤ (cp5 : Int) := by omega
                  have hL5 : L5.length = cp5 := by simpa using hs5
                  have hml := hm.out
                  obtain ⟨R5, hR5⟩ : ∃ R, L5 = cellsRn out ++ [Value.int .i32 0] ++ R := ⟨L5.drop (m + 1), by
                    have e : L5.take (m + 1) = cellsRn out ++ [Value.int .i32 0] := by simpa using ht5
                    rw [← e]; exact (List.take_append_drop _ _).symm⟩
                  have hrd5 : ∀ (W : World), W.heap[g5]? = some (.cells L5.toArray 21 (0, 0)) → ∀ (j : Nat) (v : Value), (cellsRn (out.drop J))[j]? = some v → W.cell? ⟨g5, J + j, none⟩ = some v := fun W hW j v hj => by
                    rw [cell_of_row W g5 (J + j) _ _ _ hW, List.getElem?_toArray, hR5]
                    exact runes_read hj
                  have hn5 := Lib.hid (show (cellsRn (out.drop J)).length = Nat.min (m + 1 - J) (m - J) by rw [cellsRn_len, List.length_drop, hml]; exact (Nat.min_eq_right (by omega)).symm)
                  have hfit5 := Lib.hid (show J + 1 + (cellsRn (out.drop J)).length ≤ L5.length by rw [cellsRn_len, List.length_drop, hml, hL5]; omega)
                  have hpos5 := Lib.hid (fun (W : World) (hW : W.heap[g5]? = some (.cells L5.toArray 21 (0, 0))) (h0 : 0 < (cellsRn (out.drop J)).length) =>
                    (show (if cp5 = J + 1 then some (⟨g5, 0, none⟩ : Addr) else some ⟨g5, J + 1, none⟩) = some ⟨g5, J + 1, none⟩ ∧ ∃ ad, (if cp5 = J then some (⟨g5, 0, none⟩ : Addr) else some ⟨g5, J, none⟩) = some ad ∧ ∀ j v, (cellsRn (out.drop J))[j]? = some v → W.cell? (ad.add j) = some v by
                      rw [cellsRn_len, List.length_drop, hml] at h0
                      refine ⟨if_neg (by omega), ⟨g5, J, none⟩, if_neg (by omega), fun j v hj => ?_⟩
                      rw [rn_add]
                      exact hrd5 W hW j v hj))
                  replace hR5 := Lib.hid hR5
                  replace hrd5 := Lib.hid hrd5
                  replace hml := Lib.hid hml
                  have hsz21 : (Try.prog.info? 21).map (·.size) = some 1 := by kernel_rfl
                  have hw64 : IntKind.i64.wrap ((J : Int) + 1) = (J : Int) + 1 := by rw [IntKind.wrap_i64]; omega
                  have hn64 : ((J : Int) + 1).toNat = J + 1 := by omega
                  clear ht5 hs5
                  go_upto_region 61 with fail
                  go_region_law (refine step_copy_splice rfl (.tmp 174) (.tmp 177) 63 63 rfl 21 Try.underlying63 hsz21 (if cp5 = J + 1 then some ⟨g5, 0, none⟩ else some ⟨g5, J + 1, none⟩) (if cp5 = J then some ⟨g5, 0, none⟩ else some ⟨g5, J, none⟩) (m - J) (cp5 - (J + 1)) (m + 1 - J) (cp5 - J) (by kernel_rfl) (by kernel_rfl) g5 (J + 1) L5 21 hg5 (cellsRn (out.drop J)) hn5.out (hpos5.out _ hg5) hfit5.out (runes_one _) w2.heap.size w2 hb5.drew hgb5 ?_; intro w6 hg6 hb6)
                  have hw6 : w6.heap[g5]? = some (.cells (splice L5 (J + 1) (cellsRn (out.drop J))).toArray 21 (0, 0)) := hg6.out
                  have hfr6 : w6.frozen? ⟨g5, J, none⟩ = false := by simp [World.frozen?, hw6]
                  obtain ⟨vo, hvo⟩ : ∃ v, w6.cell? ⟨g5, J, none⟩ = some v := by
                    rw [cell_of_row w6 g5 J _ _ _ hw6, List.getElem?_toArray]
                    have hl := length_splice L5 (J + 1) (cellsRn (out.drop J)) hfit5.out
                    exact ⟨_, List.getElem?_eq_getElem (by omega)⟩
                  have hown6 := Lib.hid (runes_end2 hml.out hw6 hR5.out (by have := hml.out; omega : J ≤ out.length) (by have := hml.out; omega : out.length + 1 ≤ cp5) hm5 (by rw [length_splice _ _ _ hfit5.out]; exact hL5) hgb5 N3)
                  have s4 : (J : Int) < (m : Int) + 1 := by omega
                  clear hw6 hg5
                  have hlen6 := Lib.hid (show (out.take J ++ N3 :: out.drop J).length = m + 1 by have := hml.out; simp; omega)
                  go_wp2_with fail
                  all_goals
                    first
                    | (exfalso; omega)
                    | skip
                  all_goals
                    go_roundg (enc.length - p2)
                    case measure => omega
                    case rel => exact ⟨J + 1, N3, B3, p2, _, f, by push_cast; rfl, rfl, rfl, rfl, by omega, by omega, hgo, by omega, by rw [hlen6.out]; omega, by omega, by rw [hlen6.out]; omega, by omega, hown6.out _ (by first | rfl | omega | (symm; omega)), hb6.setCell (p := ⟨g5, J, none⟩) hgb5 _⟩
      · obtain rfl : pos = enc.length := by omega
        obtain ⟨A, c, hv, hcv⟩ := owns_runes hown
        subst hv
        have hcv2 := Lib.hid hcv
        go_wp2_with fail
        go_ret
        refine ⟨hb, ?_⟩
        have e := hdec.out
        rw [List.drop_length] at e
        have e2 : pdec f [] n i bias out = some out := by cases f <;> rfl
        rw [e2] at e
        subst e
        rfl
end Go.Proofs.Yteeodkmhelmedaa
