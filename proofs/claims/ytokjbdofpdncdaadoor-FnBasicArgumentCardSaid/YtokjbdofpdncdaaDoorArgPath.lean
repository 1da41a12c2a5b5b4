/- A crate's path with one basic type: the walk. -/
import Derived.Test.YtokjbdofpdncdaaDoorArgWalk
namespace Go.Proofs.YtokjbdofpdncdaaDoor
open Go.RowKit Go.Lib
set_option linter.unusedVariables false
set_option maxRecDepth 100000
attribute [local go_sem] bs_size bs_get0
section
variable {w : World} {b : Nat} {O : ByteArray} {c : UInt8}
set_option maxHeartbeats 1000000 in
theorem path_args (h : RstO w b (pln O [73, 67, 49, 109, c, 69] [])) (hB : Basics w b) (ht : basicText c ≠ []) :
    Calls Tryd.prog 122 #[.pointer (some ⟨b, 0, none⟩), .bool true] w (Done b w (.tuple #[]) (pln O [] ([109, 58, 58, 60] ++ basicText c ++ [62]))) := by
  have hlt := h.lt
  have c1 : w.cell? ⟨b, 1, none⟩ = some (.string (bs [73, 67, 49, 109, c, 69])) := h.str
  have hp0 : 0 < (bs [73, 67, 49, 109, c, 69]).size := by rw [bs_size]; simp
  have hg : (bs [73, 67, 49, 109, c, 69])[0]'hp0 = 73 := bs_get0 73 _ hp0
  have cb : ((73 : UInt8).toNat : Int) = 73 := rfl
  have hlen := basicText_short c
  have HA := Lib.hid (adv_o (w := boxed w b true) ((h.alloc _).alloc _) (show (pln O [73, 67, 49, 109, c, 69] []).str = 73 :: [67, 49, 109, c, 69] from rfl) (by show 6 ≤ _; omega))
  have HP := Lib.hid (fun (W : World) (hW : RstO W b (pln O [67, 49, 109, c, 69] [])) => crate_m hW true)
  have HW := Lib.hid (fun (W : World) (hW : RstO W b (pln O [c, 69] [109])) => (show Calls Tryd.prog 82 #[.pointer (some ⟨b, 0, none⟩), .string (bs [58, 58])] W (Done b W (.tuple #[]) ((pln O [c, 69] [109]).putm [58, 58])) from write_o hW (Int.le_refl 0) [58, 58] (by show 1 + 2 ≤ _; omega)))
  have HC := Lib.hid (fun (W : World) (hW : RstO W b (pln O [c, 69] [109, 58, 58])) => (show Calls Tryd.prog 95 #[.pointer (some ⟨b, 0, none⟩), .int .u8 60] W (Done b W (.tuple #[]) ((pln O [c, 69] [109, 58, 58]).putm [60])) from byte_o hW (Int.le_refl 0) 60 (by show 3 + 1 ≤ _; omega)))
  have HG := Lib.hid (fun (W : World) (hW : RstO W b (pln O [c, 69] [109, 58, 58, 60])) (hb : Basics W b) => args_one hW hb rfl rfl rfl (by show 4 ≤ _; omega) ht)
  have HD := Lib.hid (fun (W : World) (hW : RstO W b (pln O [69] ([109, 58, 58, 60] ++ basicText c))) => (show Calls Tryd.prog 95 #[.pointer (some ⟨b, 0, none⟩), .int .u8 62] W (Done b W (.tuple #[]) ((pln O [69] ([109, 58, 58, 60] ++ basicText c)).putm [62])) from byte_o hW (Int.le_refl 0) 62 (by show ([109, 58, 58, 60] ++ basicText c).length + 1 ≤ _; simp; omega)))
  have HE := Lib.hid (fun (W : World) (hW : RstO W b (pln O [69] ([109, 58, 58, 60] ++ basicText c ++ [62]))) => (show Calls Tryd.prog 114 #[.pointer (some ⟨b, 0, none⟩), .int .u8 69] W (Done b W (.tuple #[]) ((pln O [69] ([109, 58, 58, 60] ++ basicText c ++ [62])).on [])) from check_o hW (c := 69) (l := []) rfl (by show 1 ≤ _; omega)))
  rw [pln_on] at HA
  simp only [pln_put, pln_on, List.cons_append, List.nil_append] at HW HC HG HD HE
  have HX := Lib.hid (fun (W : World) => boxed_cells (W := W) (sep := true) hlt)
  have HK := Lib.hid (boxed_keep hlt true)
  have HB := Lib.hid (fun (W : World) (hk : Keep b (boxed w b true) W) => hB.keep ((boxed_keep hlt true).trans hk).below (Nat.le_refl _))
  have ebs : bs [58, 58] = (⟨#[58, 58]⟩ : ByteArray) := rfl
  rw [ebs] at HW
  clear h hB ht hlen
  generalize basicText c = T at *
  go_enter Tryd.func122, Tryd.ntmps122
  go_wp2_with (first
    | (go_at_call 81; refine (HA.out).mono ?_; rintro e w2 ⟨rfl, h2, hb2⟩; obtain ⟨x2, y2⟩ := HX.out _ hb2)
    | (go_at_call 122; refine (HP.out _ h2).mono ?_; rintro e w3 ⟨rfl, h3, hb3⟩; replace hb3 := hb2.trans hb3; obtain ⟨x3, y3⟩ := HX.out _ hb3)
    | (go_at_call 82; refine (HW.out _ h3).mono ?_; rintro e w4 ⟨rfl, h4, hb4⟩; replace h4 : RstO w4 b (pln O [c, 69] [109, 58, 58]) := h4; replace hb4 := hb3.trans hb4; obtain ⟨x4, y4⟩ := HX.out _ hb4)
    | (go_at_call 95; (with_reducible refine (HC.out _ h4).mono ?_); rintro e w5 ⟨rfl, h5, hb5⟩; replace hb5 := hb4.trans hb5; obtain ⟨x5, y5⟩ := HX.out _ hb5)
    | (go_at_call 135; refine (HG.out _ h5 (HB.out _ hb5)).mono ?_; rintro e w6 ⟨rfl, h6, hb6⟩; replace h6 : RstO w6 b (pln O [69] (109 :: 58 :: 58 :: 60 :: T)) := h6; replace hb6 := hb5.trans hb6; obtain ⟨x6, y6⟩ := HX.out _ hb6)
    | (go_at_call 95; (with_reducible refine (HD.out _ h6).mono ?_); rintro e w7 ⟨rfl, h7, hb7⟩; replace hb7 := hb6.trans hb7; obtain ⟨x7, y7⟩ := HX.out _ hb7)
    | (go_at_call 114; refine (HE.out _ h7).mono ?_; rintro e w8 ⟨rfl, h8, hb8⟩; replace hb8 := hb7.trans hb8; obtain ⟨x8, y8⟩ := HX.out _ hb8))
  go_end0
  exact ⟨rfl, h8, HK.out.trans hb8⟩
end
end Go.Proofs.YtokjbdofpdncdaaDoor
