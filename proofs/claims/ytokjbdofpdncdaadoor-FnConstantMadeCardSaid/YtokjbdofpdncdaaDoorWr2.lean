/- The reference's writer: a number written; a piece spelled out; a piece as a text. -/
import Derived.Test.YtokjbdofpdncdaaDoorWr
import Derived.Deep.RegionWith
namespace Go.Proofs.YtokjbdofpdncdaaDoor
open Go.RowKit Go.Lib
set_option linter.unusedVariables false
set_option maxRecDepth 100000
attribute [local go_sem] bs_size bs_toList

set_option maxHeartbeats 4000000 in
theorem wrWrite_num {w : World} {b : Nat} {p : Bool} {out : List UInt8} (h : Wr w b p out) (hlen : out.length + 100 ≤ 140737488355328) (c : UInt8) (n : Nat) (hn : n ≤ 18446744073709551615) (nm : List UInt8) (f : Bool) (A : Option Addr) (kn kc : Nat) :
    Calls Tryd.prog 45 #[.pointer (some ⟨b, 0, none⟩), rustV 20 (c.toNat : Int) nm (n : Int) f A kn kc] w fun e w' =>
      e = .returned (.tuple #[]) ∧ Wr w' b p (out ++ [c] ++ (if f = true then [110] else []) ++ (hexL n ++ [95])) ∧ Keep b w w' := by
  have hblt := h.lt
  have hx := hexL_64 n hn
  have HPa := Lib.hid (fun W => wr_path W 20 (.inl rfl))
  have HX := Lib.hid (fun W => rustHex_any n hn W)
  have ha : ∀ W, (Op.stringOp .add (bs (hexL n)) ⟨#[95]⟩).run Tryd.prog W = .ok (.string (bs (hexL n ++ [95]))) W := add_bs (hexL n) [95] (by simp; omega)
  have HW1 := Lib.hid (fun (W : World) (hW : Wr W b p out) => wrPut_any hW [c] (by simp) (by simp; omega))
  have hcu := w_one c
  have hn1 := w_new1
  have hn2 := w_new2
  have hbn : w.heap.size ≠ b := by omega
  have HB := Lib.hid (fun (cs : Array Value) (o : Obj) (W3 : World) (hk : Keep b ((w.alloc (.cells cs 38)).alloc o) W3) => hk.blk ((Blk.new w 38 cs).alloc o) hbn (by decide))
  have HA := Lib.hid (fun o1 o2 => (h.alloc o1).alloc o2)
  cases f with
  | true =>
    have HW2 := Lib.hid (fun (W : World) (hW : Wr W b p (out ++ [c])) => (show Calls Tryd.prog 48 #[.pointer (some ⟨b, 0, none⟩), .string ⟨#[110]⟩] W fun e w' => e = .returned (.tuple #[]) ∧ Wr w' b p (out ++ [c] ++ [110]) ∧ Keep b W w' from wrPut_any hW [110] (by simp) (by simp; omega)))
    have HW3 := Lib.hid (fun (W : World) (hW : Wr W b p (out ++ [c] ++ [110])) => wrPut_any hW (hexL n ++ [95]) (by simp) (by simp; omega))
    generalize hexL n ++ [95] = T at *
    generalize hexL n = X at *
    clear hx
    unfold rustV
    go_enter Tryd.func45, Tryd.ntmps45
    go_wp2_with (first
      | (go_at_call 40; refine (HPa.out _).mono ?_; rintro e w1 ⟨rfl, rfl⟩)
      | (go_at_call 48; with_reducible refine (HW3.out _ h5).mono ?_; rintro e w6 ⟨rfl, h6, hb6⟩)
      | (go_at_call 76; refine (HX.out _).mono ?_; rintro e w5 ⟨rfl, m, rfl⟩; have h5 := h4.drewN m)
      | (go_at_call 48; with_reducible refine (HW2.out _ h3).mono ?_; rintro e w4 ⟨rfl, h4, hb4⟩; have k4 := hb4.blk k3 hbn (by decide); have q3 : w4.cell? ⟨w.heap.size, 3, none⟩ = some (.int .u64 (n : Int)) := (k4.cell 3).trans rfl)
      | (go_at_call 48; with_reducible refine (HW1.out _ (HA.out _ _)).mono ?_; rintro e w3 ⟨rfl, h3, hb3⟩; have k3 := HB.out _ _ _ hb3; have q4 : w3.cell? ⟨w.heap.size, 4, none⟩ = some (.bool true) := (k3.cell 4).trans rfl; have q3 : w3.cell? ⟨w.heap.size, 3, none⟩ = some (.int .u64 (n : Int)) := (k3.cell 3).trans rfl))
    go_end0
    exact ⟨rfl, by simpa using h6, (((((Keep.refl b w).alloc (by omega) _).alloc (by simp only [World.size_alloc]; omega) _).trans hb3).trans hb4).trans (((Keep.refl _ _).drewN m).trans hb6)⟩
  | false =>
    have HW3 := Lib.hid (fun (W : World) (hW : Wr W b p (out ++ [c])) => wrPut_any hW (hexL n ++ [95]) (by simp) (by simp; omega))
    generalize hexL n ++ [95] = T at *
    generalize hexL n = X at *
    clear hx
    unfold rustV
    go_enter Tryd.func45, Tryd.ntmps45
    go_wp2_with (first
      | (go_at_call 40; refine (HPa.out _).mono ?_; rintro e w1 ⟨rfl, rfl⟩)
      | (go_at_call 48; with_reducible refine (HW3.out _ h5).mono ?_; rintro e w6 ⟨rfl, h6, hb6⟩)
      | (go_at_call 76; refine (HX.out _).mono ?_; rintro e w5 ⟨rfl, m, rfl⟩; have h5 := h3.drewN m)
      | (go_at_call 48; with_reducible refine (HW1.out _ (HA.out _ _)).mono ?_; rintro e w3 ⟨rfl, h3, hb3⟩; have k3 := HB.out _ _ _ hb3; have q4 : w3.cell? ⟨w.heap.size, 4, none⟩ = some (.bool false) := (k3.cell 4).trans rfl; have q3 : w3.cell? ⟨w.heap.size, 3, none⟩ = some (.int .u64 (n : Int)) := (k3.cell 3).trans rfl))
    go_end0
    exact ⟨rfl, by simpa using h6, ((((Keep.refl b w).alloc (by omega) _).alloc (by simp only [World.size_alloc]; omega) _).trans hb3).trans (((Keep.refl _ _).drewN m).trans hb6)⟩

/-- A piece spelled out. -/
def pieceL (k : Int) (c : UInt8) (n : Nat) (f : Bool) : List UInt8 := if k = 20 then [c] ++ (if f = true then [110] else []) ++ (hexL n ++ [95]) else [112]
theorem pieceL_len (k : Int) (c : UInt8) (n : Nat) (f : Bool) (hn : n ≤ 18446744073709551615) : 1 ≤ (pieceL k c n f).length ∧ (pieceL k c n f).length ≤ 19 := by
  have := hexL_64 n hn
  unfold pieceL
  split
  · split <;> simp <;> omega
  · simp
theorem wrWrite_any {w : World} {b : Nat} {p : Bool} (h : Wr w b p []) (k : Int) (hk : k = 20 ∨ k = 21) (c : UInt8) (n : Nat) (hn : n ≤ 18446744073709551615) (nm : List UInt8) (f : Bool) (A : Option Addr) (kn kc : Nat) :
    Calls Tryd.prog 45 #[.pointer (some ⟨b, 0, none⟩), rustV k (c.toNat : Int) nm (n : Int) f A kn kc] w fun e w' =>
      e = .returned (.tuple #[]) ∧ Wr w' b p (pieceL k c n f) ∧ Keep b w w' := by
  rcases hk with rfl | rfl
  · have := wrWrite_num h (by simp) c n hn nm f A kn kc
    exact this
  · exact wrWrite_hole h (by simp) _ _ nm f A kn kc

theorem owns_bytes {w : World} {base : Nat} {bv : Value} {out : List UInt8} (h2 : w.ownsRow base 5 1 bv out.length (byteCells out)) : ∃ A c, bv = .slice A out.length c ∧ Bytes w A out.length out := by
  have hc := fun g hg => World.ownsRow.cells h2 (g := g) hg
  rcases h2.2 with ⟨h3, h4⟩ | ⟨g, cap, cur, rfl, hbg, hg, hn, hm, _⟩
  · have : out = [] := by simpa using h4
    subst this
    exact ⟨none, 0, h3, rfl, .inl rfl⟩
  · refine ⟨_, cap, rfl, rfl, .inr ⟨g, 0, rfl, (Array.getElem?_eq_some_iff.1 hg).1, fun i hi => ?_⟩⟩
    have k := hc g rfl i (.int .u8 (out[i].toNat : Int)) (by simp [byteCells, hi])
    have e : (⟨g, 0, none⟩ : Addr).add i = ⟨g, 0 + i, none⟩ := by unfold Addr.add; split <;> simp_all
    rwa [e] at k
theorem Wr.open_ {w : World} {b : Nat} {p : Bool} {out : List UInt8} (h : Wr w b p out) : ∃ A c, w.cell? ⟨b, 0, none⟩ = some (.slice A out.length c) ∧ Bytes w A out.length out := by
  obtain ⟨bv, h1, h2⟩ := h
  have c0 : w.cell? ⟨b, 0, none⟩ = some bv := h1.cell 0
  obtain ⟨A, c, rfl, hby⟩ := owns_bytes h2
  exact ⟨A, c, c0, hby⟩
theorem wr_new (w : World) (p : Bool) (t : TypeId) (cs : Array Value) : Wr ((w.alloc (.cells cs t)).alloc (.cells (wrCells (.slice none 0 0) p) 66)) (w.heap.size + 1) p [] := by
  refine ⟨.slice none 0 0, ?_, by simp [byteCells], .inl ⟨rfl, rfl⟩⟩
  have := Blk.new (w.alloc (.cells cs t)) 66 (wrCells (.slice none 0 0) p)
  simpa only [World.size_alloc] using this

set_option maxHeartbeats 2000000 in
theorem spelled_any (w : World) (k : Int) (hk : k = 20 ∨ k = 21) (c : UInt8) (n : Nat) (hn : n ≤ 18446744073709551615) (nm : List UInt8) (f : Bool) (A : Option Addr) (kn kc : Nat) :
    Calls Tryd.prog 46 #[rustV k (c.toNat : Int) nm (n : Int) f A kn kc] w fun e w' => e = .returned (.string (bs (pieceL k c n f))) ∧ Below w.heap.size w w' := by
  have HW := Lib.hid (fun (W : World) (b : Nat) (h : Wr W b true []) => wrWrite_any h k hk c n hn nm f A kn kc)
  have HN := Lib.hid (wr_new w true)
  obtain ⟨L, hL⟩ : ∃ L, pieceL k c n f = L := ⟨_, rfl⟩
  rw [hL] at HW ⊢
  clear hL
  unfold rustV at *
  unfold wrCells at HN
  go_enter Tryd.func46, Tryd.ntmps46
  go_wp2_with (go_at_call 45; refine (HW.out _ _ (HN.out _ _)).mono ?_; rintro e w1 ⟨rfl, h1, hb1⟩; obtain ⟨A1, c1, q0, hby⟩ := h1.open_; have hcv := hby.convert c1 Tryd.underlying23 Tryd.underlying5 Tryd.underlying9)
  go_ret
  exact ⟨rfl, (((Below.refl w.heap.size w).alloc (Nat.le_refl _) _).alloc (by simp) _).trans (hb1.below.mono (by omega))⟩

theorem owns_grown0 {w w' : World} {base : Nat} {e : TypeId} {sz n : Nat} {v : Value} {xs : List Value} (h : w.ownsRow base e sz v n xs) (hg : w.grownBy w' (Value.slice none 0 0).ownBlock) : w'.ownsRow base e sz v n xs := by
  refine ⟨h.1, ?_⟩
  rcases h.2 with h | ⟨g, cap, cur, hv, hb, hgg, r⟩
  · exact .inl h
  · exact .inr ⟨g, cap, cur, hv, hb, (hg.block g (Array.getElem?_eq_some_iff.1 hgg).1 (by simp [Value.ownBlock])).trans hgg, r⟩
/-- What a piece leaves in its writer. -/
def WrDone (w : World) (b : Nat) (L : List UInt8) : Prop := ∃ A c, w.cell? ⟨b, 0, none⟩ = some (.slice A L.length c) ∧ Bytes w A L.length L ∧ w.cell? ⟨b, 6, none⟩ = some (.bool false)
theorem wrInfoS : (Tryd.prog.info? 9).map (fun i => (i.zero, i.size, i.bytes)) = some (some (.string ByteArray.empty), 1, 16) := by kernel_rfl
theorem wrInfoI : (Tryd.prog.info? 3).map (fun i => (i.zero, i.size, i.bytes)) = some (some (.int .i64 0), 1, 8) := by kernel_rfl
set_option maxHeartbeats 4000000 in
theorem piece_any {w : World} {b : Nat} (h : Wr w b false []) (k : Int) (hk : k = 20 ∨ k = 21) (c : UInt8) (n : Nat) (hn : n ≤ 18446744073709551615) (nm : List UInt8) (f : Bool) (A : Option Addr) (kn kc : Nat) :
    Calls Tryd.prog 27 #[.pointer (some ⟨b, 0, none⟩), rustV k (c.toNat : Int) nm (n : Int) f A kn kc] w fun e w' => e = .returned (.tuple #[]) ∧ WrDone w' b (pieceL k c n f) ∧ Below b w w' := by
  obtain ⟨i0, hi, hz0, hz1, hz2⟩ := info_parts wrInfoS
  obtain ⟨j0, hj, jz0, jz1, jz2⟩ := info_parts wrInfoI
  have HS := Lib.hid (fun W : World => spelled_any W k hk c n hn nm f A kn kc)
  have HW := Lib.hid (fun (W : World) (h : Wr W b false []) => wrWrite_any h k hk c n hn nm f A kn kc)
  have hblt := h.lt
  have hbn : w.heap.size ≠ b := by omega
  have HK := Lib.hid (fun (o : Obj) (W : World) (hb : Below (w.alloc o).heap.size (w.alloc o) W) => (h.alloc o).keep hb)
  have HB := Lib.hid (fun (cs : Array Value) => Blk.new w 38 cs)
  obtain ⟨bv0, hw1, hw2⟩ := h
  obtain ⟨L, hL⟩ : ∃ L, pieceL k c n f = L := ⟨_, rfl⟩
  rw [hL] at HW HS ⊢
  clear hL
  have c5 : w.cell? ⟨b, 5, none⟩ = some (.bool false) := hw1.cell 5
  have d5 : ∀ o, (w.alloc o).cell? ⟨b, 5, none⟩ = some (.bool false) := fun o => (hw1.alloc o).cell 5
  unfold rustV at *
  go_enter Tryd.func27, Tryd.ntmps27
  go_wp2_with (go_at_call 46; refine (HS.out _).mono ?_; rintro e w1 ⟨rfl, hb1⟩; have h1 := HK.out _ _ hb1; have k1 := (HB.out _).below hb1 (by simp); obtain ⟨bv, hB1, ho1⟩ := h1; have q1 : w1.cell? ⟨b, 1, none⟩ = some (.slice none 0 0) := hB1.cell 1)
  clear HS
  go_loopg [22] 0 (fun g v wr => v = .int .i64 0 ∧ w1 = wr)
  case atStart => exact ⟨rfl, rfl⟩
  case round =>
    obtain ⟨rfl, rfl⟩ := hrel
    have r0 : w1.cell? ⟨w.heap.size, 0, none⟩ = some (.int .i64 k) := k1.cell 0
    have r1 : w1.cell? ⟨w.heap.size, 1, none⟩ = some (.int .u8 (c.toNat : Int)) := k1.cell 1
    have r2 : w1.cell? ⟨w.heap.size, 2, none⟩ = some (.string (bs nm)) := k1.cell 2
    have r3 : w1.cell? ⟨w.heap.size, 3, none⟩ = some (.int .u64 (n : Int)) := k1.cell 3
    have r4 : w1.cell? ⟨w.heap.size, 4, none⟩ = some (.bool f) := k1.cell 4
    have r5 : w1.cell? ⟨w.heap.size, 5, none⟩ = some (.slice A kn kc) := k1.cell 5
    have q0 : w1.cell? ⟨b, 0, none⟩ = some bv := hB1.cell 0
    have hW1 : Wr w1 b false [] := ⟨bv, hB1, ho1⟩
    obtain ⟨ba, bc, rfl⟩ : ∃ a c, bv = .slice a 0 c := by
      rcases ho1.2 with ⟨h, _⟩ | ⟨g, cap, cur, h, _⟩
      · exact ⟨_, _, h⟩
      · exact ⟨_, _, h⟩
    clear hw1 hw2 hB1 ho1 c5 d5
    have nown : ∀ (W : World) (e : TypeId), W.ownsRow (b + 1) e 1 (.slice none 0 0) 0 [] := fun W e => ⟨rfl, .inl ⟨rfl, rfl⟩⟩
    go_wp2_with (first
      | (go_at_call 45; refine (HW.out _ hW1).mono ?_; rintro e w2 ⟨rfl, h2, hb2⟩; obtain ⟨bv2, hB2, ho2⟩ := h2; have s1 : w2.cell? ⟨b, 1, none⟩ = some (.slice none 0 0) := hB2.cell 1; have f1 := hB2.lt)
      | (at_builtin; refine wpList_append_own _ rfl _ _ 25 rfl (b + 1) 9 i0 (.string ByteArray.empty) 1 16 Tryd.underlying25 hi hz0 hz1 hz2 rfl (by decide) _ _ _ rfl (nown _ _) ⟨w2.heap.size, 0, none⟩ 1 1 [.string (bs L)] rfl rfl ?c1 ?c2 ?c3 ?c4 ?c5 ?_))
    case c1 =>
      intro j u hj
      have hb := (Blk.new w2 9 #[.string (bs L)]).cell j
      match j, hj with
      | 0, hj => exact hb.trans hj
    case c2 => intro u hu; simp at hu; subst hu; rfl
    case c3 => unfold maxLen; omega
    case c4 => omega
    case c5 => simp; omega
    intro v3 w3 hown3 hgrow3 _
    have hB3 : Blk w3 b 66 (wrCells bv2 false) := (hB2.alloc _).grown hgrow3 (by simp [Value.ownBlock])
    have hb3 : Below b w w3 := (((((Below.refl b w).alloc (by omega) _).trans (hb1.mono (by simp; omega))).trans hb2.below).alloc (by omega) _).grown hgrow3 (by simp; omega) (fun j hj => by simp [Value.ownBlock] at hj)
    have g1 := hB3.frozen 1
    have ho3 := owns_grown0 (ho2.alloc _) hgrow3
    have s2 : w3.cell? ⟨b, 2, none⟩ = some (.slice none 0 0) := hB3.cell 2
    obtain ⟨A3, n3, c3, rfl⟩ : ∃ a n c, v3 = .slice a n c := by
      rcases hown3.2 with ⟨h, _⟩ | ⟨g, cap, cur, h, _⟩
      · exact ⟨_, _, _, h⟩
      · exact ⟨_, _, _, h⟩
    have p1 : w3.cell? ⟨b, 1, none⟩ = some (.slice none 0 0) := hB3.cell 1
    have hB4 := hB3.set_ 1 (.slice A3 n3 c3)
    have hb4 := hb3.setCell (p := ⟨b, 1, none⟩) (Nat.le_refl _) (.slice A3 n3 c3)
    have ho4 := ownsRow_setCell_below (a := ⟨b, 1, none⟩) ho3 (Nat.lt_succ_self b) (.slice A3 n3 c3)
    have f4 := hB4.lt
    have z4 : (w3.setCell ⟨b, 1, none⟩ (.slice A3 n3 c3)).heap.size = w3.heap.size := World.size_setCell ..
    go_wp2_with (at_builtin; refine wpList_append_own _ rfl _ _ 49 rfl (b + 1) 3 j0 (.int .i64 0) 1 8 Tryd.underlying49 hj jz0 jz1 jz2 rfl (by decide) _ _ _ rfl (nown _ _) ⟨w3.heap.size, 0, none⟩ 1 1 [.int .i64 0] rfl rfl ?c1 ?c2 ?c3 ?c4 ?c5 ?_)
    case c1 =>
      intro j u hj
      have hb := (Blk.new (w3.setCell ⟨b, 1, none⟩ (.slice A3 n3 c3)) 3 #[.int .i64 0]).cell j
      rw [z4] at hb
      match j, hj with
      | 0, hj => exact hb.trans hj
    case c2 => intro u hu; simp at hu; subst hu; rfl
    case c3 => unfold maxLen; omega
    case c4 => omega
    case c5 => rw [z4] at f4; simp; omega
    intro v5 w5 hown5 hgrow5 _
    have hB5 := (hB4.alloc _).grown hgrow5 (by simp [Value.ownBlock])
    have ho5 := owns_grown0 (ho4.alloc _) hgrow5
    have hb5 := (hb4.alloc (by omega) _).grown hgrow5 (by simp; omega) (fun j hj => by simp [Value.ownBlock] at hj)
    have g2 := hB5.frozen 2
    have e2 : w5.cell? ⟨b, 2, none⟩ = some (.slice none 0 0) := hB5.cell 2
    obtain ⟨A5, n5, c5, rfl⟩ : ∃ a n c, v5 = .slice a n c := by
      rcases hown5.2 with ⟨h, _⟩ | ⟨g, cap, cur, h, _⟩
      · exact ⟨_, _, _, h⟩
      · exact ⟨_, _, _, h⟩
    go_wp2
    go_end0
    have hB6 := hB5.set_ 2 (.slice A5 n5 c5)
    have ho6 := ownsRow_setCell_below (a := ⟨b, 2, none⟩) ho5 (Nat.lt_succ_self b) (.slice A5 n5 c5)
    refine ⟨rfl, ?_, hb5.setCell (p := ⟨b, 2, none⟩) (Nat.le_refl _) _⟩
    generalize w5.setCell ⟨b, 2, none⟩ (.slice A5 n5 c5) = w6 at *
    have q6 : w6.cell? ⟨b, 6, none⟩ = some (.bool false) := hB6.cell 6
    have q0' : w6.cell? ⟨b, 0, none⟩ = some bv2 := hB6.cell 0
    obtain ⟨Ab, cb, hbv, hby⟩ := owns_bytes ho6
    exact ⟨Ab, cb, by rw [q0', hbv], hby, q6⟩

set_option maxHeartbeats 2000000 in
theorem rustPiece_any (w : World) (k : Int) (hk : k = 20 ∨ k = 21) (c : UInt8) (n : Nat) (hn : n ≤ 18446744073709551615) (nm : List UInt8) (f : Bool) (A : Option Addr) (kn kc : Nat) :
    Calls Tryd.prog 14 #[rustV k (c.toNat : Int) nm (n : Int) f A kn kc, .slice none 0 0] w fun e w' => e = .returned (.string (bs (pieceL k c n f))) ∧ Below w.heap.size w w' := by
  have HW := Lib.hid (fun (W : World) (b : Nat) (h : Wr W b false []) => piece_any h k hk c n hn nm f A kn kc)
  have HN := Lib.hid (wr_new w false)
  obtain ⟨L, hL⟩ : ∃ L, pieceL k c n f = L := ⟨_, rfl⟩
  rw [hL] at HW ⊢
  clear hL
  unfold rustV at *
  unfold wrCells at HN
  go_enter Tryd.func14, Tryd.ntmps14
  go_wp2_with (go_at_call 27; refine (HW.out _ _ (HN.out _ _)).mono ?_; rintro e w1 ⟨rfl, ⟨A1, c1, q0, hby, q6⟩, hb1⟩; have hcv := hby.convert c1 Tryd.underlying23 Tryd.underlying5 Tryd.underlying9)
  go_ret
  exact ⟨rfl, (((Below.refl w.heap.size w).alloc (Nat.le_refl _) _).alloc (by simp) _).trans (hb1.mono (by omega))⟩
end Go.Proofs.YtokjbdofpdncdaaDoor
