/-
  The walk of LawS3540CAgain.
-/
import Derived.Test.YbulkbuheG6
import Derived.OwnWalk
namespace Go.Proofs.Ybulkbuhe
open Go.RowKit Fl
attribute [local go_sem] run_store_float setCell_drewN alloc_drewN
attribute [-go_sem] World.setCell_alloc_at World.setCell_alloc_past

/-- The law's first blocks. -/
def boxW (w : World) (v1 v2 : Value) : World := ((w.alloc (.cells #[v1] 22)).alloc (.cells #[v2] 22)).alloc recO
theorem boxW_facts (w : World) (v1 v2 : Value) : (boxW w v1 v2).cell? ⟨w.heap.size, 0, none⟩ = some v1 ∧ (boxW w v1 v2).cell? ⟨w.heap.size + 1, 0, none⟩ = some v2 ∧
    (∀ i, (boxW w v1 v2).cell? ⟨w.heap.size + 1 + 1, i, none⟩ = (#[Value.slice none 0 0, .int .i64 0, .int .i64 0, .slice none 0 0, .slice none 0 0, .slice none 0 0, .slice none 0 0] : Array Value)[i]?) ∧
    (∀ i, (boxW w v1 v2).frozen? ⟨w.heap.size + 1 + 1, i, none⟩ = false) ∧ (boxW w v1 v2).heap.size = w.heap.size + 1 + 1 + 1 ∧ Chg (fun _ => False) w (boxW w v1 v2) := by
  unfold boxW
  have z1 : (w.alloc (.cells #[v1] 22)).heap.size = w.heap.size + 1 := by simp
  have c1 : (w.alloc (.cells #[v1] 22)).cell? ⟨w.heap.size, 0, none⟩ = some v1 := by rw [World.cell?_alloc_new]; rfl
  have k1 : Chg (fun _ => False) w (w.alloc (.cells #[v1] 22)) := Chg.alloc _ _ _
  generalize w.alloc (.cells #[v1] 22) = W1 at z1 c1 k1 ⊢
  have z2 : (W1.alloc (.cells #[v2] 22)).heap.size = w.heap.size + 1 + 1 := by simp [z1]
  have c2 : (W1.alloc (.cells #[v2] 22)).cell? ⟨w.heap.size + 1, 0, none⟩ = some v2 := by rw [← z1, World.cell?_alloc_new]; rfl
  have k2 : Chg (fun _ => False) W1 (W1.alloc (.cells #[v2] 22)) := Chg.alloc _ _ _
  generalize W1.alloc (.cells #[v2] 22) = W2 at z2 c2 k2 ⊢
  have k3 : Chg (fun _ => False) W2 (W2.alloc recO) := Chg.alloc _ _ _
  refine ⟨(k2.trans k3 (fun _ _ h => h)).keep c1, k3.keep c2, fun i => ?_, fun i => ?_, by simp [z2], (k1.trans k2 (fun _ _ h => h)).trans k3 (fun _ _ h => h)⟩
  · rw [← z2]; exact World.cell?_alloc_new ..
  · rw [← z2]; unfold recO; rw [World.frozen?_alloc_new]

theorem lm_zero (cur : Nat → Int) {j : Nat} (h : j = 0) : lmF cur (j + 1) = fl (cur j) := by subst h; rfl
theorem lm_less (cur : Nat → Int) {j k : Nat} (h : j = k + 1) (hlt : cur j < mn cur k) : lmF cur (j + 1) = fl (cur j) := by
  subst h
  show fl (min (mn cur k) (cur (k + 1))) = _
  rw [show min (mn cur k) (cur (k + 1)) = cur (k + 1) by omega]
theorem lm_keep (cur : Nat → Int) {j k : Nat} (h : j = k + 1) (hge : ¬ cur j < mn cur k) : lmF cur (j + 1) = lmF cur j := by
  subst h
  show fl (min (mn cur k) (cur (k + 1))) = fl (mn cur k)
  rw [show min (mn cur k) (cur (k + 1)) = mn cur k by omega]
theorem lm_at (cur : Nat → Int) {j k : Nat} (h : j = k + 1) : lmF cur j = fl (mn cur k) := by subst h; rfl

set_option maxHeartbeats 8000000 in
set_option maxRecDepth 100000 in
theorem again_main (w : World) (x : Addr) (len cap : Nat) (vals : Nat → Int) (ax : Option Addr) (lenx capx : Nat) (ext : Nat → Int) (key bar : Int) (h0 : 1 ≤ len) (hl : len ≤ 1024) (hv : ∀ j, 0 ≤ vals j ∧ vals j ≤ 255) (he : ∀ j, 0 ≤ ext j ∧ ext j ≤ 255) (hx : Vals w.heap.size x len vals w) (hX : ExtO w.heap.size ax lenx ext w)
    (hk : -32768 ≤ key ∧ key ≤ 32767) (hbr : -32768 ≤ bar ∧ bar ≤ 32767) :
    Calls Yba.prog 4 #[.slice (some x) len cap, .slice ax lenx capx, .int .i16 key, .int .i16 bar] w (LawPost w) := by
  have o := shape_ok h0 hl
  have dl : decide ((1024 : Int) < (len : Int)) = false := by rw [decide_eq_false_iff_not]; omega
  have hfl := fl_eq bar
  have hw32 : wrap32 key = key := by have := IntKind.wrap_i32 key; unfold wrap32; omega
  have hwk : IntKind.i64.wrap key = key := by rw [IntKind.wrap_i64]; omega
  have hwb : IntKind.i64.wrap bar = bar := by rw [IntKind.wrap_i64]; omega
  obtain ⟨b1, b2, b3, b4, b5, b6⟩ := boxW_facts w (.slice (some x) len cap) (.slice ax lenx capx)
  have HBd := build_walk (boxW w (.slice (some x) len cap) (.slice ax lenx capx)) w.heap.size (w.heap.size + 1 + 1) len cap x vals h0 hl hv (b3 0) (b3 2) b4 (by omega) (by omega) (hx.chg b6 (fun _ h => h.elim))
  have HV : Hid (∀ j, 0 ≤ vals j ∧ vals j ≤ 255) := hv
  have HE : Hid (∀ j, 0 ≤ ext j ∧ ext j ≤ 255) := he
  have HX : Hid (Vals w.heap.size x len vals w) := hx
  have HXe : Hid (ExtO w.heap.size ax lenx ext w) := hX
  have HBox : Hid _ := And.intro b1 (And.intro b2 (And.intro b3 (And.intro b5 b6)))
  have HO : Hid (shapeOf len).Ok := o
  clear hv he hx hX b1 b2 b3 b4 b5 b6 o
  go_enter Yba.func4, Yba.ntmps4
  go_wp2_with fail
  refine HBd.mono ?_
  intro e w1 hB
  have hB' := hB
  obtain ⟨cb0, nb0, cp0, M0, rfl, hT, hM, hch, hrest, hcb, hnb⟩ := hB'
  obtain ⟨b1, b2, b3, b5, b6⟩ := HBox.out
  have hs : w.heap.size < w1.heap.size := by have := hch.size; omega
  have hc := (hch.cell (World.block_lt_of_cell? _ _ b1) (fun e => by dsimp only at e; omega)).trans b1
  have hce := (hch.cell (World.block_lt_of_cell? _ _ b2) (fun e => by dsimp only at e; omega)).trans b2
  have hV1 := (HX.out.chg b6 (fun _ h => h.elim)).chg hch (fun k e => by omega)
  have hX1 := (HXe.out.chg b6 (fun _ h => h.elim)).chg hch (fun k e => by omega)
  have hbel1 : Below w.heap.size w w1 := Chg.below (Chg.below (Below.refl _ _) b6 (Nat.le_refl _) (fun _ h => h.elim)) hch (by omega) (fun i e => by omega)
  have hew : w.heap.size + 1 < w1.heap.size := by have := hch.size; omega
  have HB1 : Hid (BuildPost w.heap.size (w.heap.size + 1 + 1) (shapeOf len) vals (boxW w (.slice (some x) len cap) (.slice ax lenx capx)) (.returned (.int .i32 (shapeOf len).root)) w1) := hB
  have HV1 : Hid (Vals w.heap.size x len vals w1) := hV1
  have HX1 : Hid (ExtO w.heap.size ax lenx ext w1) := hX1
  have HCe : Hid _ := hce
  have HBel : Hid (Below w.heap.size w w1) := hbel1
  have HEw : Hid (w.heap.size + 1 < w1.heap.size) := hew
  have hne1 : ¬ (w1.heap.size = w.heap.size) := by omega
  obtain ⟨i0, hi, hz, hsz, hby⟩ := info_parts info4
  have mk1 : Hid True := trivial
  have mk2 : Hid True := trivial
  clear hB hT hM hch hrest hcb hnb HBd hV1 hX1 hbel1 b1 b2 b3 b5 b6 hce hew
  go_wp2_with (first
    | (at_make; clear mk1; refine wpList_make_full _ rfl _ _ 46 rfl w.heap.size 4 i0 (.bool false) 1 Yba.underlying46 hi hz hsz _ _ _ _ len rfl rfl rfl rfl (by rw [hby]; omega) (by unfold maxLen; omega) (by rw [new_size]; omega) ?_; intro w2 hown2 hgrow2; have hc2 := keepCell hgrow2 (a := ⟨w.heap.size, 0, none⟩) (v := .slice (some x) len cap) (keepNew rfl hc); have hs2 : w.heap.size < w2.heap.size := World.block_lt_of_cell? w2 _ hc2; have hne2 : ¬ (w2.heap.size = w.heap.size) := (by omega); have HO2 : Hid (w2.ownsRow w.heap.size 4 1 (.slice (some ⟨w1.heap.size + 1, 0, none⟩) len len) len (List.replicate len (.bool false))) := fixRow new_size hown2; have HG2 : Hid _ := hgrow2; clear hown2 hgrow2)
    | (at_make; clear mk2; refine wpList_make_full _ rfl _ _ 46 rfl w.heap.size 4 i0 (.bool false) 1 Yba.underlying46 hi hz hsz _ _ _ _ len rfl rfl rfl rfl (by rw [hby]; omega) (by unfold maxLen; omega) (by rw [new_size]; omega) ?_; intro w3 hown3 hgrow3; have HO3 : Hid (w3.ownsRow w.heap.size 4 1 (.slice (some ⟨w2.heap.size + 1, 0, none⟩) len len) len (List.replicate len (.bool false))) := fixRow new_size hown3; have HG3 : Hid _ := hgrow3; clear hown3 hgrow3))
  obtain ⟨c, hcE⟩ : ∃ c : Blk, c = ⟨w.heap.size, w.heap.size + 1, w1.heap.size, w1.heap.size + 1, w2.heap.size, w2.heap.size + 1, w3.heap.size, w3.heap.size + 1, w3.heap.size + 1 + 1, w3.heap.size + 1 + 1 + 1, w3.heap.size + 1 + 1 + 1 + 1, w3.heap.size + 1 + 1 + 1 + 1 + 1⟩ := ⟨_, rfl⟩
  obtain ⟨cOk, hEG, hCh⟩ := agn_start bar (Nat.lt_succ_self _) HEw.out (Nat.le_refl _) hc HCe.out HV1.out HX1.out HG2.out HO2.out HG3.out HO3.out c hcE
  have hvb : w.heap.size ≤ c.vb := by rw [hcE]; exact Nat.le_refl _
  have HR := run_built2 (againClient w.heap.size c cOk hvb bar (small_of (by omega) (by omega)) x len cap hl vals HV.out ax lenx capx ext HE.out) (boxW w (.slice (some x) len cap) (.slice ax lenx capx)) w1 _ _ (w.heap.size + 1 + 1) len key vals c.foot h0 hl HV.out (HBox.out.2.2.1 5) (HBox.out.2.2.1 6) HB1.out (by omega) hCh hEG (fun k h => by
    have hz0 := HBox.out.2.2.2.1
    have hl2 : w1.heap.size + 1 < w2.heap.size := (HO2.out.lt _ rfl).2
    have hl3 : w2.heap.size + 1 < w3.heap.size := (HO3.out.lt _ rfl).2
    rw [hcE] at h
    unfold Blk.foot at h
    dsimp only at h
    omega) (fun k h => by
    have hl2 : w1.heap.size + 1 < w2.heap.size := (HO2.out.lt _ rfl).2
    have hl3 : w2.heap.size + 1 < w3.heap.size := (HO3.out.lt _ rfl).2
    rw [hcE] at h
    unfold Blk.foot at h
    dsimp only at h
    omega) HE.out (fun l h => h)
  subst hcE
  refine HR.mono ?_
  rintro e w4 ⟨sm, sn, tr, F, cb, nb, cp, rfl, ⟨M, hT, hM⟩, hE, hg, hf, hsd, hlf, hrt, hcc⟩
  have hbel4 := Chg.below (Chg.below HBel.out hCh (by omega) (fun _ h => h.elim)) hcc (Nat.le_trans (show w.heap.size ≤ w1.heap.size by omega) hCh.size) (fun _ h => h)
  have HA : Hid (Bft w.heap.size _ bar x len cap vals ax lenx capx ext key (w.heap.size + 1 + 1) w tr sm sn cb nb cp M w4) := ⟨hg, hf, hsd, hT, hM, hlf, hrt, hE.fix, hE.var, hbel4⟩
  have hbad := HA.out.fix.cd
  dsimp only at hbad
  clear hT hM hE hg hf hsd hlf hrt hcc hbel4 HR hEG hCh hvb cOk hc hc2 HO2 HG2 HO3 HG3 HV1 HX1 HCe HBel HB1 HBox HX HXe
  go_wp2_with fail
  go_loopw [19, 20, 21, 22] (fun av bv lv jv wr => ∃ j : Nat, j ≤ len ∧ av = .int .i64 (cntF tr j : Int) ∧ bv = .int .i64 (cntS tr j : Int) ∧ lv = .float .f64 (lmF (curOf vals ext tr) j) ∧ jv = .int .i64 (j : Int) ∧ wr = w4) (fun _ _ _ jv _ => len - (intOf jv).toNat)
  case atStart => exact ⟨0, Nat.zero_le _, by rw [cntF_zero]; rfl, by rw [cntS_zero]; rfl, rfl, rfl, rfl⟩
  case round =>
    clear hbad
    obtain ⟨j, hj, rfl, rfl, rfl, rfl, rfl⟩ := hrel
    have cvb := HA.out.fix.cv
    have ceb := HA.out.fix.ce
    dsimp only at cvb ceb
    by_cases hlt : j < len
    · have d1 : decide ((j : Int) < (len : Int)) = true := by rw [decide_eq_true_iff]; omega
      have hvj := HA.out.fix.vals.2 j hlt
      have HE15 := ext15 wr w.heap.size ax lenx capx ext j HA.out.fix.exts
      obtain ⟨hN, hcell⟩ := HA.out.cell HO.out hlt
      have hji0 : (0 : Int) ≤ (j : Int) := by omega
      have hjil : (j : Int) < (len : Int) := by omega
      have hjil2 : (len : Int) ≤ 1024 := by omega
      have hcur := HA.out.cur hlt
      have hn1 := HA.out.cnt1 hlt
      have hn2 := HA.out.cnt2 hlt
      have hc9 : cntF tr j ≤ j := cntF_le tr (Good.fst1 _ tr rfl HA.out.good) j
      have hd9 : cntS tr j ≤ j := cntS_le tr (Good.snd1 _ tr rfl HA.out.good) j
      have hwcF : IntKind.i64.wrap ((cntF tr j : Int) + 1) = (cntF tr j : Int) + 1 := by rw [IntKind.wrap_i64]; omega
      have hwcS : IntKind.i64.wrap ((cntS tr j : Int) + 1) = (cntS tr j : Int) + 1 := by rw [IntKind.wrap_i64]; omega
      have hvr := HV.out j
      have her := HE.out j
      have hwv : IntKind.i64.wrap (vals j) = vals j := by rw [IntKind.wrap_i64]; omega
      have hwe : IntKind.i64.wrap (ext j) = ext j := by rw [IntKind.wrap_i64]; omega
      have sv : Small (vals j) := small_of (by omega) (by omega)
      obtain ⟨ff, hff⟩ : ∃ ff, ff = curOf vals ext tr j := ⟨_, rfl⟩
      have HNx : Hid (ff = (if key < j ∧ vals j < bar then vals j + ext j else vals j) ∧ cntF tr (j + 1) = (if key < j ∧ vals j < bar then cntF tr j + 1 else cntF tr j) ∧ cntS tr (j + 1) = (if key < j ∧ vals j < bar ∧ 0 < ext j ∧ vals j + ext j < bar then cntS tr j + 1 else cntS tr j)) := ⟨hff.trans hcur, hn1, hn2⟩
      have HL0 : Hid (j = 0 → lmF (curOf vals ext tr) (j + 1) = fl ff) := fun h => by rw [hff]; exact lm_zero _ h
      have HL1 : Hid (∀ k, j = k + 1 → ff < mn (curOf vals ext tr) k → lmF (curOf vals ext tr) (j + 1) = fl ff) := fun k h hl => by rw [hff] at hl ⊢; exact lm_less _ h hl
      have HL2 : Hid (∀ k, j = k + 1 → ¬ ff < mn (curOf vals ext tr) k → lmF (curOf vals ext tr) (j + 1) = lmF (curOf vals ext tr) j) := fun k h hl => by rw [hff] at hl; exact lm_keep _ h hl
      have HLa : Hid (∀ k, j = k + 1 → lmF (curOf vals ext tr) j = fl (mn (curOf vals ext tr) k)) := fun k h => lm_at _ h
      have HSm : Hid (∀ k, Small (mn (curOf vals ext tr) k)) := fun k => mn_range HV.out HE.out k
      rw [← hff] at hcell
      obtain ⟨nn, hnn⟩ : ∃ nn, nn = 1 + j / 8 := ⟨_, rfl⟩
      obtain ⟨ii, hii⟩ : ∃ ii, ii = j % 8 := ⟨_, rfl⟩
      rw [← hnn] at hN hcell
      rw [← hii] at hcell
      have HNd := node_walk wr w.heap.size (w.heap.size + 1 + 1) cb nb (shapeOf len).N cp nn M HA.out.tre hN
      have hq8 : 1 + (j : Int) / 8 = (nn : Int) := by omega
      have hr8 : (j : Int) % 8 = (ii : Int) := by omega
      have hi0 : (0 : Int) ≤ (ii : Int) := by omega
      have hi8 : (ii : Int) < 8 := by omega
      have hflv := fl_eq (vals j)
      obtain ⟨bz, hbz⟩ : ∃ bz : Bool, ((j : Int) == 0) = bz := ⟨_, rfl⟩
      have HBz : Hid ((j = 0 → bz = true) ∧ (j ≠ 0 → bz = false)) := ⟨fun h => by rw [← hbz, h]; rfl, fun h => by rw [← hbz]; simp; exact h⟩
      clear hcur hn1 hn2 hff hnn hii hc9 hd9
      by_cases hkj : key < (j : Int)
      · have e1 : decide (key < (j : Int)) = true := by rw [decide_eq_true_iff]; exact hkj
        by_cases hbj : vals j < bar
        · have e2 : decide (vals j < bar) = true := by rw [decide_eq_true_iff]; exact hbj
          by_cases hxj : 0 < ext j
          · have e3 : decide (0 < ext j) = true := by rw [decide_eq_true_iff]; exact hxj
            obtain ⟨gg, hgg⟩ : ∃ gg, gg = vals j + ext j := ⟨_, rfl⟩
            have hwg : IntKind.i64.wrap (vals j + ext j) = gg := by rw [IntKind.wrap_i64]; omega
            have hflg := fl_eq gg
            have sg : Small gg := small_of (by omega) (by omega)
            by_cases hgb : gg < bar
            · have e4 : decide (gg < bar) = true := by rw [decide_eq_true_iff]; exact hgb
              have HCn : Hid (cntF tr (j + 1) = cntF tr j + 1 ∧ cntS tr (j + 1) = cntS tr j + 1) := ⟨by rw [HNx.out.2.1, if_pos ⟨hkj, hbj⟩], by rw [HNx.out.2.2, if_pos ⟨hkj, hbj, hxj, by omega⟩]⟩
              have hffv : ff = gg := by rw [HNx.out.1, if_pos ⟨hkj, hbj⟩]; omega
              have heq : FloatKind.f64.format.order (fl ff) (fl gg) = some .eq := by rw [hffv, fl_ord _ _ sg sg, cmp_self]
              clear hgg
              rcases Nat.eq_zero_or_pos j with hz | hz
              · have hb1 := HBz.out.1 hz
                have HLm : Hid (lmF (curOf vals ext tr) (j + 1) = fl gg) := by have := HL0.out hz; rw [hffv] at this; exact this
                clear hz
                clear hffv
                go_wp2_with fail
                refine HE15.mono ?_
                rintro e w' ⟨rfl, hw'⟩
                have hw' := hw'.symm
                subst hw'
                go_wp2_with fail
                refine HNd.mono ?_
                rintro e w' ⟨rfl, hw'⟩
                have hw' := hw'.symm
                subst hw'
                go_wp2_with fail
                go_roundw
                case rel => exact ⟨j + 1, by omega, by rw [HCn.out.1]; go_num, by rw [HCn.out.2]; go_num, by rw [HLm.out], by go_num, by trivial⟩
                case measure => simp [intOf]; omega
              · obtain ⟨k, hk⟩ : ∃ k, j = k + 1 := ⟨j - 1, by omega⟩
                by_cases hl2 : ff < mn (curOf vals ext tr) k
                · have hb1 := HBz.out.2 (by omega)
                  have sm := HSm.out k
                  have hord : (FloatKind.f64.format.order (fl gg) (lmF (curOf vals ext tr) j) == some .lt) = true := by rw [HLa.out k hk, fl_lt _ _ sg sm]; rw [hffv] at hl2; exact decide_eq_true hl2
                  have HLm : Hid (lmF (curOf vals ext tr) (j + 1) = fl gg) := by have := HL1.out k hk hl2; rw [hffv] at this; exact this
                  clear hl2 sm hk
                  clear hffv
                  go_wp2_with fail
                  refine HE15.mono ?_
                  rintro e w' ⟨rfl, hw'⟩
                  have hw' := hw'.symm
                  subst hw'
                  go_wp2_with fail
                  refine HNd.mono ?_
                  rintro e w' ⟨rfl, hw'⟩
                  have hw' := hw'.symm
                  subst hw'
                  go_wp2_with fail
                  go_roundw
                  case rel => exact ⟨j + 1, by omega, by rw [HCn.out.1]; go_num, by rw [HCn.out.2]; go_num, by rw [HLm.out], by go_num, by trivial⟩
                  case measure => simp [intOf]; omega
                · have hb1 := HBz.out.2 (by omega)
                  have sm := HSm.out k
                  have hord : (FloatKind.f64.format.order (fl gg) (lmF (curOf vals ext tr) j) == some .lt) = false := by rw [HLa.out k hk, fl_lt _ _ sg sm]; rw [hffv] at hl2; exact decide_eq_false hl2
                  have HLm : Hid (lmF (curOf vals ext tr) (j + 1) = lmF (curOf vals ext tr) j) := HL2.out k hk hl2
                  clear hl2 sm hk
                  clear hffv
                  go_wp2_with fail
                  refine HE15.mono ?_
                  rintro e w' ⟨rfl, hw'⟩
                  have hw' := hw'.symm
                  subst hw'
                  go_wp2_with fail
                  refine HNd.mono ?_
                  rintro e w' ⟨rfl, hw'⟩
                  have hw' := hw'.symm
                  subst hw'
                  go_wp2_with fail
                  go_roundw
                  case rel => exact ⟨j + 1, by omega, by rw [HCn.out.1]; go_num, by rw [HCn.out.2]; go_num, by rw [HLm.out], by go_num, by trivial⟩
                  case measure => simp [intOf]; omega
            · have e4 : decide (gg < bar) = false := by rw [decide_eq_false_iff_not]; exact hgb
              have HCn : Hid (cntF tr (j + 1) = cntF tr j + 1 ∧ cntS tr (j + 1) = cntS tr j) := ⟨by rw [HNx.out.2.1, if_pos ⟨hkj, hbj⟩], by rw [HNx.out.2.2, if_neg (fun h => by omega)]⟩
              have hffv : ff = gg := by rw [HNx.out.1, if_pos ⟨hkj, hbj⟩]; omega
              have heq : FloatKind.f64.format.order (fl ff) (fl gg) = some .eq := by rw [hffv, fl_ord _ _ sg sg, cmp_self]
              clear hgg
              rcases Nat.eq_zero_or_pos j with hz | hz
              · have hb1 := HBz.out.1 hz
                have HLm : Hid (lmF (curOf vals ext tr) (j + 1) = fl gg) := by have := HL0.out hz; rw [hffv] at this; exact this
                clear hz
                clear hffv
                go_wp2_with fail
                refine HE15.mono ?_
                rintro e w' ⟨rfl, hw'⟩
                have hw' := hw'.symm
                subst hw'
                go_wp2_with fail
                refine HNd.mono ?_
                rintro e w' ⟨rfl, hw'⟩
                have hw' := hw'.symm
                subst hw'
                go_wp2_with fail
                go_roundw
                case rel => exact ⟨j + 1, by omega, by rw [HCn.out.1]; go_num, by rw [HCn.out.2], by rw [HLm.out], by go_num, by trivial⟩
                case measure => simp [intOf]; omega
              · obtain ⟨k, hk⟩ : ∃ k, j = k + 1 := ⟨j - 1, by omega⟩
                by_cases hl2 : ff < mn (curOf vals ext tr) k
                · have hb1 := HBz.out.2 (by omega)
                  have sm := HSm.out k
                  have hord : (FloatKind.f64.format.order (fl gg) (lmF (curOf vals ext tr) j) == some .lt) = true := by rw [HLa.out k hk, fl_lt _ _ sg sm]; rw [hffv] at hl2; exact decide_eq_true hl2
                  have HLm : Hid (lmF (curOf vals ext tr) (j + 1) = fl gg) := by have := HL1.out k hk hl2; rw [hffv] at this; exact this
                  clear hl2 sm hk
                  clear hffv
                  go_wp2_with fail
                  refine HE15.mono ?_
                  rintro e w' ⟨rfl, hw'⟩
                  have hw' := hw'.symm
                  subst hw'
                  go_wp2_with fail
                  refine HNd.mono ?_
                  rintro e w' ⟨rfl, hw'⟩
                  have hw' := hw'.symm
                  subst hw'
                  go_wp2_with fail
                  go_roundw
                  case rel => exact ⟨j + 1, by omega, by rw [HCn.out.1]; go_num, by rw [HCn.out.2], by rw [HLm.out], by go_num, by trivial⟩
                  case measure => simp [intOf]; omega
                · have hb1 := HBz.out.2 (by omega)
                  have sm := HSm.out k
                  have hord : (FloatKind.f64.format.order (fl gg) (lmF (curOf vals ext tr) j) == some .lt) = false := by rw [HLa.out k hk, fl_lt _ _ sg sm]; rw [hffv] at hl2; exact decide_eq_false hl2
                  have HLm : Hid (lmF (curOf vals ext tr) (j + 1) = lmF (curOf vals ext tr) j) := HL2.out k hk hl2
                  clear hl2 sm hk
                  clear hffv
                  go_wp2_with fail
                  refine HE15.mono ?_
                  rintro e w' ⟨rfl, hw'⟩
                  have hw' := hw'.symm
                  subst hw'
                  go_wp2_with fail
                  refine HNd.mono ?_
                  rintro e w' ⟨rfl, hw'⟩
                  have hw' := hw'.symm
                  subst hw'
                  go_wp2_with fail
                  go_roundw
                  case rel => exact ⟨j + 1, by omega, by rw [HCn.out.1]; go_num, by rw [HCn.out.2], by rw [HLm.out], by go_num, by trivial⟩
                  case measure => simp [intOf]; omega
          · have e3 : decide (0 < ext j) = false := by rw [decide_eq_false_iff_not]; exact hxj
            have HCn : Hid (cntF tr (j + 1) = cntF tr j + 1 ∧ cntS tr (j + 1) = cntS tr j) := ⟨by rw [HNx.out.2.1, if_pos ⟨hkj, hbj⟩], by rw [HNx.out.2.2, if_neg (fun h => by omega)]⟩
            have hffv : ff = (vals j) := by rw [HNx.out.1, if_pos ⟨hkj, hbj⟩]; omega
            have heq : FloatKind.f64.format.order (fl ff) (fl (vals j)) = some .eq := by rw [hffv, fl_ord _ _ sv sv, cmp_self]
            rcases Nat.eq_zero_or_pos j with hz | hz
            · have hb1 := HBz.out.1 hz
              have HLm : Hid (lmF (curOf vals ext tr) (j + 1) = fl (vals j)) := by have := HL0.out hz; rw [hffv] at this; exact this
              clear hz
              clear hffv
              go_wp2_with fail
              refine HE15.mono ?_
              rintro e w' ⟨rfl, hw'⟩
              have hw' := hw'.symm
              subst hw'
              go_wp2_with fail
              refine HNd.mono ?_
              rintro e w' ⟨rfl, hw'⟩
              have hw' := hw'.symm
              subst hw'
              go_wp2_with fail
              go_roundw
              case rel => exact ⟨j + 1, by omega, by rw [HCn.out.1]; go_num, by rw [HCn.out.2], by rw [HLm.out], by go_num, by trivial⟩
              case measure => simp [intOf]; omega
            · obtain ⟨k, hk⟩ : ∃ k, j = k + 1 := ⟨j - 1, by omega⟩
              by_cases hl2 : ff < mn (curOf vals ext tr) k
              · have hb1 := HBz.out.2 (by omega)
                have sm := HSm.out k
                have hord : (FloatKind.f64.format.order (fl (vals j)) (lmF (curOf vals ext tr) j) == some .lt) = true := by rw [HLa.out k hk, fl_lt _ _ sv sm]; rw [hffv] at hl2; exact decide_eq_true hl2
                have HLm : Hid (lmF (curOf vals ext tr) (j + 1) = fl (vals j)) := by have := HL1.out k hk hl2; rw [hffv] at this; exact this
                clear hl2 sm hk
                clear hffv
                go_wp2_with fail
                refine HE15.mono ?_
                rintro e w' ⟨rfl, hw'⟩
                have hw' := hw'.symm
                subst hw'
                go_wp2_with fail
                refine HNd.mono ?_
                rintro e w' ⟨rfl, hw'⟩
                have hw' := hw'.symm
                subst hw'
                go_wp2_with fail
                go_roundw
                case rel => exact ⟨j + 1, by omega, by rw [HCn.out.1]; go_num, by rw [HCn.out.2], by rw [HLm.out], by go_num, by trivial⟩
                case measure => simp [intOf]; omega
              · have hb1 := HBz.out.2 (by omega)
                have sm := HSm.out k
                have hord : (FloatKind.f64.format.order (fl (vals j)) (lmF (curOf vals ext tr) j) == some .lt) = false := by rw [HLa.out k hk, fl_lt _ _ sv sm]; rw [hffv] at hl2; exact decide_eq_false hl2
                have HLm : Hid (lmF (curOf vals ext tr) (j + 1) = lmF (curOf vals ext tr) j) := HL2.out k hk hl2
                clear hl2 sm hk
                clear hffv
                go_wp2_with fail
                refine HE15.mono ?_
                rintro e w' ⟨rfl, hw'⟩
                have hw' := hw'.symm
                subst hw'
                go_wp2_with fail
                refine HNd.mono ?_
                rintro e w' ⟨rfl, hw'⟩
                have hw' := hw'.symm
                subst hw'
                go_wp2_with fail
                go_roundw
                case rel => exact ⟨j + 1, by omega, by rw [HCn.out.1]; go_num, by rw [HCn.out.2], by rw [HLm.out], by go_num, by trivial⟩
                case measure => simp [intOf]; omega
        · have e2 : decide (vals j < bar) = false := by rw [decide_eq_false_iff_not]; exact hbj
          have HCn : Hid (cntF tr (j + 1) = cntF tr j ∧ cntS tr (j + 1) = cntS tr j) := ⟨by rw [HNx.out.2.1, if_neg (fun h => by omega)], by rw [HNx.out.2.2, if_neg (fun h => by omega)]⟩
          have hffv : ff = (vals j) := by rw [HNx.out.1, if_neg (fun h => by omega)]
          have heq : FloatKind.f64.format.order (fl ff) (fl (vals j)) = some .eq := by rw [hffv, fl_ord _ _ sv sv, cmp_self]
          rcases Nat.eq_zero_or_pos j with hz | hz
          · have hb1 := HBz.out.1 hz
            have HLm : Hid (lmF (curOf vals ext tr) (j + 1) = fl (vals j)) := by have := HL0.out hz; rw [hffv] at this; exact this
            clear hz
            clear hffv
            go_wp2_with fail
            refine HE15.mono ?_
            rintro e w' ⟨rfl, hw'⟩
            have hw' := hw'.symm
            subst hw'
            go_wp2_with fail
            refine HNd.mono ?_
            rintro e w' ⟨rfl, hw'⟩
            have hw' := hw'.symm
            subst hw'
            go_wp2_with fail
            go_roundw
            case rel => exact ⟨j + 1, by omega, by rw [HCn.out.1], by rw [HCn.out.2], by rw [HLm.out], by go_num, by trivial⟩
            case measure => simp [intOf]; omega
          · obtain ⟨k, hk⟩ : ∃ k, j = k + 1 := ⟨j - 1, by omega⟩
            by_cases hl2 : ff < mn (curOf vals ext tr) k
            · have hb1 := HBz.out.2 (by omega)
              have sm := HSm.out k
              have hord : (FloatKind.f64.format.order (fl (vals j)) (lmF (curOf vals ext tr) j) == some .lt) = true := by rw [HLa.out k hk, fl_lt _ _ sv sm]; rw [hffv] at hl2; exact decide_eq_true hl2
              have HLm : Hid (lmF (curOf vals ext tr) (j + 1) = fl (vals j)) := by have := HL1.out k hk hl2; rw [hffv] at this; exact this
              clear hl2 sm hk
              clear hffv
              go_wp2_with fail
              refine HE15.mono ?_
              rintro e w' ⟨rfl, hw'⟩
              have hw' := hw'.symm
              subst hw'
              go_wp2_with fail
              refine HNd.mono ?_
              rintro e w' ⟨rfl, hw'⟩
              have hw' := hw'.symm
              subst hw'
              go_wp2_with fail
              go_roundw
              case rel => exact ⟨j + 1, by omega, by rw [HCn.out.1], by rw [HCn.out.2], by rw [HLm.out], by go_num, by trivial⟩
              case measure => simp [intOf]; omega
            · have hb1 := HBz.out.2 (by omega)
              have sm := HSm.out k
              have hord : (FloatKind.f64.format.order (fl (vals j)) (lmF (curOf vals ext tr) j) == some .lt) = false := by rw [HLa.out k hk, fl_lt _ _ sv sm]; rw [hffv] at hl2; exact decide_eq_false hl2
              have HLm : Hid (lmF (curOf vals ext tr) (j + 1) = lmF (curOf vals ext tr) j) := HL2.out k hk hl2
              clear hl2 sm hk
              clear hffv
              go_wp2_with fail
              refine HE15.mono ?_
              rintro e w' ⟨rfl, hw'⟩
              have hw' := hw'.symm
              subst hw'
              go_wp2_with fail
              refine HNd.mono ?_
              rintro e w' ⟨rfl, hw'⟩
              have hw' := hw'.symm
              subst hw'
              go_wp2_with fail
              go_roundw
              case rel => exact ⟨j + 1, by omega, by rw [HCn.out.1], by rw [HCn.out.2], by rw [HLm.out], by go_num, by trivial⟩
              case measure => simp [intOf]; omega
      · have e1 : decide (key < (j : Int)) = false := by rw [decide_eq_false_iff_not]; exact hkj
        have HCn : Hid (cntF tr (j + 1) = cntF tr j ∧ cntS tr (j + 1) = cntS tr j) := ⟨by rw [HNx.out.2.1, if_neg (fun h => by omega)], by rw [HNx.out.2.2, if_neg (fun h => by omega)]⟩
        have hffv : ff = (vals j) := by rw [HNx.out.1, if_neg (fun h => by omega)]
        have heq : FloatKind.f64.format.order (fl ff) (fl (vals j)) = some .eq := by rw [hffv, fl_ord _ _ sv sv, cmp_self]
        rcases Nat.eq_zero_or_pos j with hz | hz
        · have hb1 := HBz.out.1 hz
          have HLm : Hid (lmF (curOf vals ext tr) (j + 1) = fl (vals j)) := by have := HL0.out hz; rw [hffv] at this; exact this
          clear hz
          clear hffv
          go_wp2_with fail
          refine HE15.mono ?_
          rintro e w' ⟨rfl, hw'⟩
          have hw' := hw'.symm
          subst hw'
          go_wp2_with fail
          refine HNd.mono ?_
          rintro e w' ⟨rfl, hw'⟩
          have hw' := hw'.symm
          subst hw'
          go_wp2_with fail
          go_roundw
          case rel => exact ⟨j + 1, by omega, by rw [HCn.out.1], by rw [HCn.out.2], by rw [HLm.out], by go_num, by trivial⟩
          case measure => simp [intOf]; omega
        · obtain ⟨k, hk⟩ : ∃ k, j = k + 1 := ⟨j - 1, by omega⟩
          by_cases hl2 : ff < mn (curOf vals ext tr) k
          · have hb1 := HBz.out.2 (by omega)
            have sm := HSm.out k
            have hord : (FloatKind.f64.format.order (fl (vals j)) (lmF (curOf vals ext tr) j) == some .lt) = true := by rw [HLa.out k hk, fl_lt _ _ sv sm]; rw [hffv] at hl2; exact decide_eq_true hl2
            have HLm : Hid (lmF (curOf vals ext tr) (j + 1) = fl (vals j)) := by have := HL1.out k hk hl2; rw [hffv] at this; exact this
            clear hl2 sm hk
            clear hffv
            go_wp2_with fail
            refine HE15.mono ?_
            rintro e w' ⟨rfl, hw'⟩
            have hw' := hw'.symm
            subst hw'
            go_wp2_with fail
            refine HNd.mono ?_
            rintro e w' ⟨rfl, hw'⟩
            have hw' := hw'.symm
            subst hw'
            go_wp2_with fail
            go_roundw
            case rel => exact ⟨j + 1, by omega, by rw [HCn.out.1], by rw [HCn.out.2], by rw [HLm.out], by go_num, by trivial⟩
            case measure => simp [intOf]; omega
          · have hb1 := HBz.out.2 (by omega)
            have sm := HSm.out k
            have hord : (FloatKind.f64.format.order (fl (vals j)) (lmF (curOf vals ext tr) j) == some .lt) = false := by rw [HLa.out k hk, fl_lt _ _ sv sm]; rw [hffv] at hl2; exact decide_eq_false hl2
            have HLm : Hid (lmF (curOf vals ext tr) (j + 1) = lmF (curOf vals ext tr) j) := HL2.out k hk hl2
            clear hl2 sm hk
            clear hffv
            go_wp2_with fail
            refine HE15.mono ?_
            rintro e w' ⟨rfl, hw'⟩
            have hw' := hw'.symm
            subst hw'
            go_wp2_with fail
            refine HNd.mono ?_
            rintro e w' ⟨rfl, hw'⟩
            have hw' := hw'.symm
            subst hw'
            go_wp2_with fail
            go_roundw
            case rel => exact ⟨j + 1, by omega, by rw [HCn.out.1], by rw [HCn.out.2], by rw [HLm.out], by go_num, by trivial⟩
            case measure => simp [intOf]; omega
    · have d1 : decide ((j : Int) < (len : Int)) = false := by rw [decide_eq_false_iff_not]; omega
      obtain ⟨kN, hcell⟩ := HA.out.rootCell HO.out h0
      have hcn := HA.out.good.counts
      have hjl : j = len := by omega
      have hn1 := HA.out.var.c1
      have hn2 := HA.out.var.c2
      dsimp only at hn1 hn2
      have HNd := node_walk wr w.heap.size (w.heap.size + 1 + 1) cb nb (shapeOf len).N cp (shapeOf len).root M HA.out.tre kN
      have hr1 := HO.out.root1
      have HFin : Hid (LawPost w (.returned (.bool true)) wr) := ⟨rfl, HA.out.below⟩
      have heq : FloatKind.f64.format.order (lmF (curOf vals ext tr) len) (lmF (curOf vals ext tr) len) = some .eq := by
        obtain ⟨k, hk⟩ : ∃ k, len = k + 1 := ⟨len - 1, by omega⟩
        have sm := mn_range (tr := tr) HV.out HE.out k
        rw [lm_at _ hk, fl_ord _ _ sm sm, cmp_self]
      have hcj : cntF tr j = firsts tr := by rw [hcn.1, hjl]
      have hdj : cntS tr j = seconds tr := by rw [hcn.2.1, hjl]
      have hlj : lmF (curOf vals ext tr) j = lmF (curOf vals ext tr) len := by rw [hjl]
      rw [hcj, hdj, hlj]
      generalize (shapeOf len).root = r at HNd hcell hr1 kN ⊢
      generalize lmF (curOf vals ext tr) len = lm at hcell heq ⊢
      have hr0 : ((r : Int) == 0) = false := by simp; omega
      have hr2 : ¬ (r = 0) := by omega
      clear hcj hdj hlj hcn hjl hr1
      go_wp2_with (first | (go_at_call 16; refine HNd.mono ?_; rintro e w' ⟨rfl, hw'⟩; have hw' := hw'.symm; subst hw'))
      go_ret
      exact HFin.out
end Go.Proofs.Ybulkbuhe
