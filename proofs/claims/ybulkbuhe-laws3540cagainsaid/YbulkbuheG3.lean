/-
  LawS3540CAgain: the walk of its visit.
-/
import Derived.Test.YbulkbuheG2
namespace Go.Proofs.Ybulkbuhe
open Go.RowKit Fl
attribute [local go_sem] run_store_float setCell_drewN alloc_drewN
attribute [-go_sem] World.setCell_alloc_at World.setCell_alloc_past

def cellsOf (c : Blk) : Array Value := #[.pointer (some ⟨c.vb, 0, none⟩), .pointer (some ⟨c.bd, 0, none⟩), .pointer (some ⟨c.hv, 0, none⟩), .pointer (some ⟨c.la, 0, none⟩), .pointer (some ⟨c.eb, 0, none⟩), .pointer (some ⟨c.n1, 0, none⟩), .pointer (some ⟨c.fb, 0, none⟩), .pointer (some ⟨c.n2, 0, none⟩), .pointer (some ⟨c.sb, 0, none⟩)]
def argsOf (c : Blk) (j y : Nat) (b : Bool) : Array Value := #[.int .i32 (j : Int), .float .f64 y, .bool b, .pointer (some ⟨c.vb, 0, none⟩), .pointer (some ⟨c.bd, 0, none⟩), .pointer (some ⟨c.hv, 0, none⟩), .pointer (some ⟨c.la, 0, none⟩), .pointer (some ⟨c.eb, 0, none⟩), .pointer (some ⟨c.n1, 0, none⟩), .pointer (some ⟨c.fb, 0, none⟩), .pointer (some ⟨c.n2, 0, none⟩), .pointer (some ⟨c.sb, 0, none⟩)]
theorem argsOf_eq (c : Blk) (j y : Nat) (b : Bool) : #[.int .i32 (j : Int), .float .f64 y, .bool b] ++ cellsOf c = argsOf c j y b := rfl
def First14 (c : Blk) (j : Nat) (v x : Int) (n : Nat) (w : World) (e : Ending) (w' : World) : Prop :=
  e = .returned (.tuple #[.float .f64 (if 0 < x then fl (v + x) else fl v), .float .f64 (if 0 < x then fl (v + x) else 0), .bool (decide (0 < x))]) ∧ w' = visW w c.hv c.la c.n1 c.fr j (fl v) ((n : Int) + 1)
def Second14 (c : Blk) (j : Nat) (v : Int) (n : Nat) (w : World) (e : Ending) (w' : World) : Prop :=
  e = .returned (.tuple #[.float .f64 (fl v), .float .f64 0, .bool false]) ∧ w' = visW w c.hv c.la c.n2 c.sr j (fl v) ((n : Int) + 1)

section
variable (w : World) (base : Nat) (c : Blk) (bar : Int) (x : Addr) (len cap : Nat) (vals : Nat → Int) (ax : Option Addr) (lenx capx : Nat) (ext : Nat → Int)
set_option maxHeartbeats 4000000 in
set_option maxRecDepth 100000 in
theorem visit14_first (f : Fix base c bar x len cap vals ax lenx capx ext w) (o : c.Ok) (hvb : base ≤ c.vb) (hl : len ≤ 1024) (j : Nat) (hj : j < len) (hb : Bool) (lv : Int) (n : Nat) (hlv : hb = true → lv ≤ vals j) (hs : Small lv) (hvr : 0 ≤ vals j ∧ vals j ≤ 255) (her : 0 ≤ ext j ∧ ext j ≤ 255)
    (ch : w.cell? ⟨c.hv, 0, none⟩ = some (.bool hb)) (cl : w.cell? ⟨c.la, 0, none⟩ = some (.float .f64 (fl lv))) (c1 : w.cell? ⟨c.n1, 0, none⟩ = some (.int .i64 (n : Int))) (hn : n < 100000) (cr : w.cell? ⟨c.fr, j, none⟩ = some (.bool false)) (sr1 : w.frozen? ⟨c.fr, j, none⟩ = false) :
    Calls Yba.prog 14 (argsOf c j (fl (vals j)) false) w (First14 c j (vals j) (ext j) n w) := by
  obtain ⟨vb, eb, bb, fr, fb, sr, sb, bd, hv, la, n1, n2⟩ := c
  obtain ⟨cv, ce, cb, cf, cs, cd, fv, fe, sh, sl, s1, s2, low, lh⟩ := f
  obtain ⟨h1, h2, h3, h4, h5, h6, h7, h8, h9, h10, h11⟩ := o
  dsimp only [argsOf] at *
  have hcv := fv.2 j hj
  have hxb : ∀ k o, base ≤ k → (⟨k, o, none⟩ : Addr) ≠ x.add j := fun k o hk e => by
    have h := congrArg Addr.block e
    rw [add_block] at h
    have := fv.1
    dsimp only at h
    omega
  have hji0 : (0 : Int) ≤ (j : Int) := by omega
  have hjil : (j : Int) < (len : Int) := by omega
  have hwj : IntKind.i64.wrap (j : Int) = (j : Int) := by rw [IntKind.wrap_i64]; omega
  have hwn : IntKind.i64.wrap ((n : Int) + 1) = (n : Int) + 1 := by rw [IntKind.wrap_i64]; omega
  have e0 : decide ((j : Int) < 0) = false := by rw [decide_eq_false_iff_not]; omega
  have e1 : decide ((len : Int) ≤ (j : Int)) = false := by rw [decide_eq_false_iff_not]; omega
  have hfl := fl_eq (vals j)
  have hfe := fl_eq (ext j)
  have sv : Small (vals j) := small_of (by omega) (by omega)
  have se : Small (ext j) := small_of (by omega) (by omega)
  have q1 : hv ≠ la := by omega
  have q2 : hv ≠ eb := by omega
  have q3 : la ≠ eb := by omega
  have heq : FloatKind.f64.format.order (fl (vals j)) (fl (vals j)) = some .eq := by rw [fl_ord _ _ sv sv, cmp_self]
  have hc1 : Chg (fun k => k = hv ∨ k = la) w ((w.setCell ⟨hv, 0, none⟩ (.bool true)).setCell ⟨la, 0, none⟩ (.float .f64 (fl (vals j)))) := (Chg.setCell (S := fun k => k = hv ∨ k = la) w ⟨hv, 0, none⟩ _ (.inl rfl)).trans (Chg.setCell (S := fun k => k = hv ∨ k = la) _ ⟨la, 0, none⟩ _ (.inr rfl)) (fun _ _ h => h)
  have HE := ext15 ((w.setCell ⟨hv, 0, none⟩ (.bool true)).setCell ⟨la, 0, none⟩ (.float .f64 (fl (vals j)))) base ax lenx capx ext j (fe.chg hc1 (fun k h => by omega))
  have far : ∀ b i, b ≠ hv → b ≠ la → ((w.setCell ⟨hv, 0, none⟩ (.bool true)).setCell ⟨la, 0, none⟩ (.float .f64 (fl (vals j)))).cell? ⟨b, i, none⟩ = w.cell? ⟨b, i, none⟩ := fun b i n1 n2 => by
    rw [World.cell?_setCell_other _ _ _ _ (ne_addr (Ne.symm n2)), World.cell?_setCell_other _ _ _ _ (ne_addr (Ne.symm n1))]
  have g1 := (far n1 0 (by omega) (by omega)).trans c1
  have g2 := (far fb 0 (by omega) (by omega)).trans cf
  have g3 := (far fr j (by omega) (by omega)).trans cr
  have g4 := (far vb 0 (by omega) (by omega)).trans cv
  have g5 : ((w.setCell ⟨hv, 0, none⟩ (.bool true)).setCell ⟨la, 0, none⟩ (.float .f64 (fl (vals j)))).cell? (x.add j) = some (.int .u8 (vals j)) := by
    rw [World.cell?_setCell_other _ _ _ _ (hxb la 0 (by omega)), World.cell?_setCell_other _ _ _ _ (hxb hv 0 (by omega))]
    exact hcv
  have sN : ((w.setCell ⟨hv, 0, none⟩ (.bool true)).setCell ⟨la, 0, none⟩ (.float .f64 (fl (vals j)))).frozen? ⟨n1, 0, none⟩ = false := by rw [World.frozen?_setCell, World.frozen?_setCell]; exact s1
  have sR : ((w.setCell ⟨hv, 0, none⟩ (.bool true)).setCell ⟨la, 0, none⟩ (.float .f64 (fl (vals j)))).frozen? ⟨fr, j, none⟩ = false := by rw [World.frozen?_setCell, World.frozen?_setCell]; exact sr1
  have p1 : n1 ≠ fb := by omega
  have p2 : n1 ≠ fr := by omega
  have p3 : n1 ≠ vb := by omega
  have p4 := hxb n1 0 (by omega)
  have HG : Hid _ := And.intro g1 (And.intro g2 (And.intro g3 (And.intro g4 (And.intro g5 (And.intro sN sR)))))
  clear far g1 g2 g3 g4 g5 sN sR fv fe low lh cb cd hc1 hxb hcv c1 cr sr1 s1 s2 hvb hl hn h1 h2 h3 h4 h5 h6 h7 h8 h9 h10 h11
  by_cases hx : 0 < ext j
  · have hg0 : (FloatKind.f64.format.order (fl (ext j)) 0 == some .gt) = true := by
      have ho : FloatKind.f64.format.order (fl (ext j)) 0 = some (compare (ext j) 0) := order_I (fl_I _ se) I_zero
      rw [ho, cmp_gt hx]; rfl
    have hadd := fun t w => run_addF t sv se (by omega) (small_of (by omega) (by omega)) (w := w)
    have HFin : Hid (∀ W, W = visW w hv la n1 fr j (fl (vals j)) ((n : Int) + 1) → First14 ⟨vb, eb, bb, fr, fb, sr, sb, bd, hv, la, n1, n2⟩ j (vals j) (ext j) n w (.returned (.tuple #[.float .f64 (fl (vals j + ext j)), .float .f64 (fl (vals j + ext j)), .bool true])) W) := fun W hW => ⟨by rw [if_pos hx, if_pos hx, decide_eq_true hx], hW⟩
    cases hb
    · go_enter Yba.func14, Yba.ntmps14
      go_wp2_with fail
      refine HE.mono ?_
      rintro e w' ⟨rfl, hw'⟩
      have hw' := hw'.symm
      subst hw'
      clear HE cv ce cf cs ch cl sh sl
      obtain ⟨g1, g2, g3, g4, g5, sN, sR⟩ := HG.out
      generalize hW : (w.setCell ⟨hv, 0, none⟩ (.bool true)).setCell ⟨la, 0, none⟩ (.float .f64 (fl (vals j))) = W1 at g1 g2 g3 g4 g5 sN sR ⊢
      have HW : Hid (_ = W1) := hW
      clear hW HG
      go_wp2_with fail
      go_ret3
      exact HFin.out _ (by rw [← HW.out]; rfl)
    · have hlt := fl_lt (vals j) lv sv hs
      rw [decide_eq_false (by have := hlv rfl; omega)] at hlt
      go_enter Yba.func14, Yba.ntmps14
      go_wp2_with fail
      refine HE.mono ?_
      rintro e w' ⟨rfl, hw'⟩
      have hw' := hw'.symm
      subst hw'
      clear HE cv ce cf cs ch cl sh sl
      obtain ⟨g1, g2, g3, g4, g5, sN, sR⟩ := HG.out
      generalize hW : (w.setCell ⟨hv, 0, none⟩ (.bool true)).setCell ⟨la, 0, none⟩ (.float .f64 (fl (vals j))) = W1 at g1 g2 g3 g4 g5 sN sR ⊢
      have HW : Hid (_ = W1) := hW
      clear hW HG
      go_wp2_with fail
      go_ret3
      exact HFin.out _ (by rw [← HW.out]; rfl)
  · have hg0 : (FloatKind.f64.format.order (fl (ext j)) 0 == some .gt) = false := by
      have ho : FloatKind.f64.format.order (fl (ext j)) 0 = some (compare (ext j) 0) := order_I (fl_I _ se) I_zero
      have h0 : ext j = 0 := by omega
      rw [ho, h0, cmp_self]; rfl
    have HFin : Hid (∀ W, W = visW w hv la n1 fr j (fl (vals j)) ((n : Int) + 1) → First14 ⟨vb, eb, bb, fr, fb, sr, sb, bd, hv, la, n1, n2⟩ j (vals j) (ext j) n w (.returned (.tuple #[.float .f64 (fl (vals j)), .float .f64 0, .bool false])) W) := fun W hW => ⟨by rw [if_neg hx, if_neg hx, decide_eq_false hx], hW⟩
    cases hb
    · go_enter Yba.func14, Yba.ntmps14
      go_wp2_with fail
      refine HE.mono ?_
      rintro e w' ⟨rfl, hw'⟩
      have hw' := hw'.symm
      subst hw'
      clear HE cv ce cf cs ch cl sh sl
      obtain ⟨g1, g2, g3, g4, g5, sN, sR⟩ := HG.out
      generalize hW : (w.setCell ⟨hv, 0, none⟩ (.bool true)).setCell ⟨la, 0, none⟩ (.float .f64 (fl (vals j))) = W1 at g1 g2 g3 g4 g5 sN sR ⊢
      have HW : Hid (_ = W1) := hW
      clear hW HG
      go_wp2_with fail
      go_ret3
      exact HFin.out _ (by rw [← HW.out]; rfl)
    · have hlt := fl_lt (vals j) lv sv hs
      rw [decide_eq_false (by have := hlv rfl; omega)] at hlt
      go_enter Yba.func14, Yba.ntmps14
      go_wp2_with fail
      refine HE.mono ?_
      rintro e w' ⟨rfl, hw'⟩
      have hw' := hw'.symm
      subst hw'
      clear HE cv ce cf cs ch cl sh sl
      obtain ⟨g1, g2, g3, g4, g5, sN, sR⟩ := HG.out
      generalize hW : (w.setCell ⟨hv, 0, none⟩ (.bool true)).setCell ⟨la, 0, none⟩ (.float .f64 (fl (vals j))) = W1 at g1 g2 g3 g4 g5 sN sR ⊢
      have HW : Hid (_ = W1) := hW
      clear hW HG
      go_wp2_with fail
      go_ret3
      exact HFin.out _ (by rw [← HW.out]; rfl)
set_option maxHeartbeats 4000000 in
set_option maxRecDepth 100000 in
theorem visit14_second (f : Fix base c bar x len cap vals ax lenx capx ext w) (o : c.Ok) (hvb : base ≤ c.vb) (hl : len ≤ 1024) (j : Nat) (hj : j < len) (hb : Bool) (lv : Int) (n : Nat) (hlv : hb = true → lv ≤ vals j + ext j) (hs : Small lv) (hvr : 0 ≤ vals j ∧ vals j ≤ 255) (her : 0 ≤ ext j ∧ ext j ≤ 255) (hx : 0 < ext j)
    (ch : w.cell? ⟨c.hv, 0, none⟩ = some (.bool hb)) (cl : w.cell? ⟨c.la, 0, none⟩ = some (.float .f64 (fl lv))) (c2 : w.cell? ⟨c.n2, 0, none⟩ = some (.int .i64 (n : Int))) (hn : n < 100000) (cr : w.cell? ⟨c.fr, j, none⟩ = some (.bool true)) (cr2 : w.cell? ⟨c.sr, j, none⟩ = some (.bool false)) (sr1 : w.frozen? ⟨c.sr, j, none⟩ = false) :
    Calls Yba.prog 14 (argsOf c j (fl (vals j + ext j)) true) w (Second14 c j (vals j + ext j) n w) := by
  obtain ⟨vv, hvv⟩ : ∃ vv, vv = vals j + ext j := ⟨_, rfl⟩
  rw [← hvv] at hlv ⊢
  obtain ⟨vb, eb, bb, fr, fb, sr, sb, bd, hv, la, n1, n2⟩ := c
  obtain ⟨cv, ce, cb, cf, cs, cd, fv, fe, sh, sl, s1, s2, low, lh⟩ := f
  obtain ⟨h1, h2, h3, h4, h5, h6, h7, h8, h9, h10, h11⟩ := o
  dsimp only [argsOf] at *
  have hcv := fv.2 j hj
  have hxb : ∀ k o, base ≤ k → (⟨k, o, none⟩ : Addr) ≠ x.add j := fun k o hk e => by
    have h := congrArg Addr.block e
    rw [add_block] at h
    have := fv.1
    dsimp only at h
    omega
  have hji0 : (0 : Int) ≤ (j : Int) := by omega
  have hjil : (j : Int) < (len : Int) := by omega
  have hwj : IntKind.i64.wrap (j : Int) = (j : Int) := by rw [IntKind.wrap_i64]; omega
  have hwn : IntKind.i64.wrap ((n : Int) + 1) = (n : Int) + 1 := by rw [IntKind.wrap_i64]; omega
  have e0 : decide ((j : Int) < 0) = false := by rw [decide_eq_false_iff_not]; omega
  have e1 : decide ((len : Int) ≤ (j : Int)) = false := by rw [decide_eq_false_iff_not]; omega
  have hfl := fl_eq (vals j)
  have hfe := fl_eq (ext j)
  have sv : Small (vals j) := small_of (by omega) (by omega)
  have se : Small (ext j) := small_of (by omega) (by omega)
  have q1 : hv ≠ la := by omega
  have q2 : hv ≠ eb := by omega
  have q3 : la ≠ eb := by omega
  have svv : Small vv := small_of (by omega) (by omega)
  have heq : FloatKind.f64.format.order (fl vv) (fl vv) = some .eq := by rw [fl_ord _ _ svv svv, cmp_self]
  have hadd := fun t w => run_addF t sv se (by omega) (small_of (by omega) (by omega)) (w := w)
  rw [← hvv] at hadd
  have hc1 : Chg (fun k => k = hv ∨ k = la) w ((w.setCell ⟨hv, 0, none⟩ (.bool true)).setCell ⟨la, 0, none⟩ (.float .f64 (fl vv))) := (Chg.setCell (S := fun k => k = hv ∨ k = la) w ⟨hv, 0, none⟩ _ (.inl rfl)).trans (Chg.setCell (S := fun k => k = hv ∨ k = la) _ ⟨la, 0, none⟩ _ (.inr rfl)) (fun _ _ h => h)
  have HE := ext15 ((w.setCell ⟨hv, 0, none⟩ (.bool true)).setCell ⟨la, 0, none⟩ (.float .f64 (fl vv))) base ax lenx capx ext j (fe.chg hc1 (fun k h => by omega))
  have far : ∀ b i, b ≠ hv → b ≠ la → ((w.setCell ⟨hv, 0, none⟩ (.bool true)).setCell ⟨la, 0, none⟩ (.float .f64 (fl vv))).cell? ⟨b, i, none⟩ = w.cell? ⟨b, i, none⟩ := fun b i n1 n2 => by
    rw [World.cell?_setCell_other _ _ _ _ (ne_addr (Ne.symm n2)), World.cell?_setCell_other _ _ _ _ (ne_addr (Ne.symm n1))]
  have g1 := (far n2 0 (by omega) (by omega)).trans c2
  have g2 := (far fb 0 (by omega) (by omega)).trans cf
  have g3 := (far fr j (by omega) (by omega)).trans cr
  have g4 := (far vb 0 (by omega) (by omega)).trans cv
  have g6 := (far sb 0 (by omega) (by omega)).trans cs
  have g7 := (far sr j (by omega) (by omega)).trans cr2
  have g5 : ((w.setCell ⟨hv, 0, none⟩ (.bool true)).setCell ⟨la, 0, none⟩ (.float .f64 (fl vv))).cell? (x.add j) = some (.int .u8 (vals j)) := by
    rw [World.cell?_setCell_other _ _ _ _ (hxb la 0 (by omega)), World.cell?_setCell_other _ _ _ _ (hxb hv 0 (by omega))]
    exact hcv
  have sN : ((w.setCell ⟨hv, 0, none⟩ (.bool true)).setCell ⟨la, 0, none⟩ (.float .f64 (fl vv))).frozen? ⟨n2, 0, none⟩ = false := by rw [World.frozen?_setCell, World.frozen?_setCell]; exact s2
  have sR : ((w.setCell ⟨hv, 0, none⟩ (.bool true)).setCell ⟨la, 0, none⟩ (.float .f64 (fl vv))).frozen? ⟨sr, j, none⟩ = false := by rw [World.frozen?_setCell, World.frozen?_setCell]; exact sr1
  have p1 : n2 ≠ fb := by omega
  have p2 : n2 ≠ fr := by omega
  have p3 : n2 ≠ vb := by omega
  have p5 : n2 ≠ sb := by omega
  have p6 : n2 ≠ sr := by omega
  have p4 := hxb n2 0 (by omega)
  have HG : Hid _ := And.intro g1 (And.intro g2 (And.intro g3 (And.intro g4 (And.intro g5 (And.intro g6 (And.intro g7 (And.intro sN sR)))))))
  clear far g1 g2 g3 g4 g5 g6 g7 sN sR fv fe low lh cb cd hc1 hxb hcv c2 cr cr2 sr1 s1 s2 hvb hl hn h1 h2 h3 h4 h5 h6 h7 h8 h9 h10 h11
  have HFin : Hid (∀ W, W = visW w hv la n2 sr j (fl vv) ((n : Int) + 1) → Second14 ⟨vb, eb, bb, fr, fb, sr, sb, bd, hv, la, n1, n2⟩ j vv n w (.returned (.tuple #[.float .f64 (fl vv), .float .f64 0, .bool false])) W) := fun W hW => ⟨rfl, hW⟩
  have HVv : Hid (vv = _) := hvv
  clear hvv
  cases hb
  · go_enter Yba.func14, Yba.ntmps14
    go_wp2_with fail
    refine HE.mono ?_
    rintro e w' ⟨rfl, hw'⟩
    have hw' := hw'.symm
    subst hw'
    clear HE cv ce cf cs ch cl sh sl
    obtain ⟨g1, g2, g3, g4, g5, g6, g7, sN, sR⟩ := HG.out
    generalize hW : (w.setCell ⟨hv, 0, none⟩ (.bool true)).setCell ⟨la, 0, none⟩ (.float .f64 (fl vv)) = W1 at g1 g2 g3 g4 g5 g6 g7 sN sR ⊢
    have HW : Hid (_ = W1) := hW
    clear hW HG
    go_wp2_with fail
    go_ret3
    exact HFin.out _ (by rw [← HW.out]; rfl)
  · have hlt := fl_lt vv lv svv hs
    rw [decide_eq_false (by have := hlv rfl; omega)] at hlt
    go_enter Yba.func14, Yba.ntmps14
    go_wp2_with fail
    refine HE.mono ?_
    rintro e w' ⟨rfl, hw'⟩
    have hw' := hw'.symm
    subst hw'
    clear HE cv ce cf cs ch cl sh sl
    obtain ⟨g1, g2, g3, g4, g5, g6, g7, sN, sR⟩ := HG.out
    generalize hW : (w.setCell ⟨hv, 0, none⟩ (.bool true)).setCell ⟨la, 0, none⟩ (.float .f64 (fl vv)) = W1 at g1 g2 g3 g4 g5 g6 g7 sN sR ⊢
    have HW : Hid (_ = W1) := hW
    clear hW HG
    go_wp2_with fail
    go_ret3
    exact HFin.out _ (by rw [← HW.out]; rfl)
end
end Go.Proofs.Ybulkbuhe
