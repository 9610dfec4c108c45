/-
  LawS3540CAgain: no values; too many.
-/
import Derived.Test.YbulkbuheG7
import Derived.OwnWalk
namespace Go.Proofs.Ybulkbuhe
open Go.RowKit Fl
attribute [local go_sem] run_store_float setCell_drewN alloc_drewN
attribute [-go_sem] World.setCell_alloc_at World.setCell_alloc_past

set_option maxHeartbeats 1000000 in
set_option maxRecDepth 100000 in
theorem again_many (w : World) (a : Option Addr) (len cap : Nat) (v : Value) (key bar : Int) (hl : 1024 < len) (hv : ∃ a2 l2 c2, v = .slice a2 l2 c2) : Calls Yba.prog 4 #[.slice a len cap, v, .int .i16 key, .int .i16 bar] w (LawPost w) := by
  obtain ⟨a2, l2, c2, rfl⟩ := hv
  have dl : decide ((1024 : Int) < (len : Int)) = true := by rw [decide_eq_true_iff]; omega
  go_enter Yba.func4, Yba.ntmps4
  go_wp2_with fail
  go_ret
  exact ⟨rfl, ((Below.refl _ _).alloc (Nat.le_refl _) _).alloc (by simp) _⟩

set_option maxHeartbeats 4000000 in
set_option maxRecDepth 100000 in
theorem again_none (w : World) (a : Option Addr) (cap : Nat) (ax : Option Addr) (lenx capx : Nat) (key bar : Int) : Calls Yba.prog 4 #[.slice a 0 cap, .slice ax lenx capx, .int .i16 key, .int .i16 bar] w (LawPost w) := by
  have hfl := fl_eq bar
  obtain ⟨b1, b2, b3, b4, b5, b6⟩ := boxW_facts w (.slice a 0 cap) (.slice ax lenx capx)
  have HBd := build0_walk (boxW w (.slice a 0 cap) (.slice ax lenx capx)) w.heap.size (w.heap.size + 1 + 1) cap a (b3 0) (b3 2) b4 (by omega) (by omega)
  have HBox : Hid _ := And.intro b1 (And.intro b2 (And.intro b3 (And.intro b5 b6)))
  clear b1 b2 b3 b4 b5 b6
  go_enter Yba.func4, Yba.ntmps4
  go_wp2_with fail
  refine HBd.mono ?_
  rintro e w1 ⟨rfl, hch⟩
  obtain ⟨b1, b2, b3, b5, b6⟩ := HBox.out
  have hs : w.heap.size < w1.heap.size := by have := hch.size; omega
  have hc := (hch.cell (World.block_lt_of_cell? _ _ b1) (fun e => by dsimp only at e; omega)).trans b1
  have hbel1 : Below w.heap.size w w1 := Chg.below (Chg.below (Below.refl _ _) b6 (Nat.le_refl _) (fun _ h => h.elim)) hch (by omega) (fun i e => by omega)
  have HBel : Hid (Below w.heap.size w w1) := hbel1
  have hne1 : ¬ (w1.heap.size = w.heap.size) := by omega
  obtain ⟨i0, hi, hz, hsz, hby⟩ := info_parts info4
  have mk1 : Hid True := trivial
  have mk2 : Hid True := trivial
  clear hch HBd hbel1 b1 b2 b3 b5 b6 HBox
  go_wp2_with (first
    | (at_make; clear mk1; refine wpList_make_full _ rfl _ _ 46 rfl w.heap.size 4 i0 (.bool false) 1 Yba.underlying46 hi hz hsz _ _ _ _ 0 rfl rfl rfl rfl (by omega) (by unfold maxLen; omega) (by rw [new_size]; omega) ?_; intro w2 hown2 hgrow2; have hc2 := keepCell hgrow2 (a := ⟨w.heap.size, 0, none⟩) (v := .slice a 0 cap) (keepNew rfl hc); have hs2 : w.heap.size < w2.heap.size := World.block_lt_of_cell? w2 _ hc2; have hne2 : ¬ (w2.heap.size = w.heap.size) := (by omega); have HG2 : Hid _ := hgrow2; clear hown2 hgrow2)
    | (at_make; clear mk2; refine wpList_make_full _ rfl _ _ 46 rfl w.heap.size 4 i0 (.bool false) 1 Yba.underlying46 hi hz hsz _ _ _ _ 0 rfl rfl rfl rfl (by omega) (by unfold maxLen; omega) (by rw [new_size]; omega) ?_; intro w3 hown3 hgrow3; have HG3 : Hid _ := hgrow3; clear hown3 hgrow3))
  refine (least0_walk _ (w.heap.size + 1 + 1) _ _ _ _ _ _).mono ?_
  rintro e w' ⟨rfl, hw'⟩
  have hw' := hw'.symm
  subst hw'
  have L := agnW_late w3 w3.heap.size (w2.heap.size + 1) 0 rfl
  unfold agnW at L
  generalize ((((((((((((w3.alloc (.cells #[.slice none 0 0] 46)).setCell ⟨w3.heap.size, 0, none⟩ (.slice (some ⟨w2.heap.size + 1, 0, none⟩) 0 0)).alloc (.cells #[.bool false] 4)).setCell ⟨w3.heap.size + 1, 0, none⟩ (.bool false)).alloc (.cells #[.bool false] 4)).setCell ⟨w3.heap.size + 1 + 1, 0, none⟩ (.bool false)).alloc (.cells #[.float .f64 0] 35)).setCell ⟨w3.heap.size + 1 + 1 + 1, 0, none⟩ (.float .f64 0)).alloc (.cells #[.int .i64 0] 3)).alloc (.cells #[.int .i64 0] 3)).setCell ⟨w3.heap.size + 1 + 1 + 1 + 1, 0, none⟩ (.int .i64 0)).setCell ⟨w3.heap.size + 1 + 1 + 1 + 1 + 1, 0, none⟩ (.int .i64 0)) = W4 at L ⊢
  have k1 := new_chg (w := w1) (v0 := .float .f64 0) (v := .float .f64 (fl bar)) (t := 35) rfl
  have g2 : Chg (fun _ => False) _ w2 := Chg.grown HG2.out (fun k e => by cases e)
  have k3 := new_chg (w := w2) (v0 := .slice none 0 0) (v := .slice (some ⟨w1.heap.size + 1, 0, none⟩) 0 0) (t := 46) rfl
  have g3 : Chg (fun _ => False) _ w3 := Chg.grown HG3.out (fun k e => by cases e)
  have kE := (((k1.trans g2 (fun _ _ h => h)).trans k3 (fun _ _ h => h)).trans g3 (fun _ _ h => h)).trans L.chg (fun _ _ h => h)
  have HFin : Hid (LawPost w (.returned (.bool true)) W4) := ⟨rfl, Chg.below HBel.out kE (by omega) (fun _ h => h.elim)⟩
  have hcv := kE.keep hc
  have hbd := L.cd
  have hn1 := L.c1
  have hn2 := L.c2
  clear L k1 g2 k3 g3 kE hc hc2 HG2 HG3
  go_wp2_with fail
  go_loopw [19, 20, 21, 22] (fun av bv lv jv wr => av = .int .i64 0 ∧ bv = .int .i64 0 ∧ jv = .int .i64 0 ∧ wr = W4) (fun _ _ _ _ _ => 0)
  case atStart => exact ⟨rfl, rfl, rfl, rfl⟩
  case round =>
    obtain ⟨rfl, rfl, rfl, rfl⟩ := hrel
    go_wp2_with fail
    go_ret
    exact HFin.out
end Go.Proofs.Ybulkbuhe
