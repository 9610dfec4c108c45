/-
  LawS3540CAgain: the state of its closure.
-/
import Derived.Test.YbulkbuheG1
namespace Go.Proofs.Ybulkbuhe
open Go.RowKit Fl

/-- The law's blocks, in the order in which they are laid. -/
structure Blk where
  vb : Nat
  eb : Nat
  bb : Nat
  fr : Nat
  fb : Nat
  sr : Nat
  sb : Nat
  bd : Nat
  hv : Nat
  la : Nat
  n1 : Nat
  n2 : Nat
structure Blk.Ok (c : Blk) : Prop where
  h1 : c.vb < c.eb
  h2 : c.eb < c.bb
  h3 : c.bb < c.fr
  h4 : c.fr < c.fb
  h5 : c.fb < c.sr
  h6 : c.sr < c.sb
  h7 : c.sb < c.bd
  h8 : c.bd < c.hv
  h9 : c.hv < c.la
  h10 : c.la < c.n1
  h11 : c.n1 < c.n2
def Blk.foot (c : Blk) (k : Nat) : Prop := k = c.vb ∨ k = c.eb ∨ k = c.bb ∨ k = c.fr ∨ k = c.fb ∨ k = c.sr ∨ k = c.sb ∨ k = c.bd ∨ k = c.hv ∨ k = c.la ∨ k = c.n1 ∨ k = c.n2

def seconds (tr : List Vis) : Nat := tr.countP fun x => x.again
theorem seconds_snoc (tr : List Vis) (x : Vis) : seconds (tr ++ [x]) = seconds tr + if x.again = true then 1 else 0 := by unfold seconds; rw [List.countP_append, List.countP_singleton]
def lastV (tr : List Vis) : Int := (tr.getLast?.map Vis.v).getD 0
theorem lastV_snoc (tr : List Vis) (x : Vis) : lastV (tr ++ [x]) = x.v := by unfold lastV; simp
theorem lastV_le {len : Nat} {vals ext : Nat → Int} {tr : List Vis} {x : Vis} (s : Step len vals ext tr x) (h : tr ≠ []) : lastV tr ≤ x.v := by
  unfold lastV
  rw [List.getLast?_eq_some_getLast h]
  exact s.le _ (List.getLast_mem h)
def fstRow (tr : List Vis) (len : Nat) : List Value := (List.range len).map fun j => Value.bool (decide (0 < fstN tr j))
def sndRow (tr : List Vis) (len : Nat) : List Value := (List.range len).map fun j => Value.bool (decide (0 < sndN tr j))
theorem fstRow_at (tr : List Vis) {len j : Nat} (hj : j < len) : (fstRow tr len)[j]? = some (.bool (decide (0 < fstN tr j))) := by
  unfold fstRow
  rw [List.getElem?_map, List.getElem?_range hj]
  rfl
theorem sndRow_at (tr : List Vis) {len j : Nat} (hj : j < len) : (sndRow tr len)[j]? = some (.bool (decide (0 < sndN tr j))) := by
  unfold sndRow
  rw [List.getElem?_map, List.getElem?_range hj]
  rfl
theorem fstRow_nil (len : Nat) : List.replicate len (Value.bool false) = fstRow [] len := by
  apply List.ext_getElem?
  intro i
  by_cases h : i < len
  · rw [fstRow_at [] h, List.getElem?_replicate, if_pos h]
    rfl
  · rw [List.getElem?_eq_none (by simpa using h), List.getElem?_eq_none (by simpa [fstRow] using h)]
theorem sndRow_nil (len : Nat) : List.replicate len (Value.bool false) = sndRow [] len := by
  apply List.ext_getElem?
  intro i
  by_cases h : i < len
  · rw [sndRow_at [] h, List.getElem?_replicate, if_pos h]
    rfl
  · rw [List.getElem?_eq_none (by simpa using h), List.getElem?_eq_none (by simpa [sndRow] using h)]
theorem fstRow_first (tr : List Vis) {len : Nat} {x : Vis} (ha : x.again = false) : (fstRow tr len).set x.j (.bool true) = fstRow (tr ++ [x]) len := by
  apply List.ext_getElem?
  intro i
  by_cases h : i < len
  · rw [fstRow_at _ h, fstN_snoc, List.getElem?_set]
    unfold fstB
    rw [ha]
    by_cases e : x.j = i
    · rw [if_pos e, if_pos (by simpa [fstRow, e] using h), if_pos (by simpa using e)]
      rw [decide_eq_true (show 0 < fstN tr i + 1 by omega)]
    · rw [if_neg e, if_neg (by simpa using e), fstRow_at tr h, Nat.add_zero]
  · rw [List.getElem?_eq_none (by simpa [fstRow] using h), List.getElem?_eq_none (by simpa [fstRow] using h)]
theorem fstRow_again (tr : List Vis) {len : Nat} {x : Vis} (ha : x.again = true) : fstRow (tr ++ [x]) len = fstRow tr len := by
  unfold fstRow
  apply List.map_congr_left
  intro j _
  rw [fstN_snoc]
  unfold fstB
  rw [ha]
  simp
theorem sndRow_again (tr : List Vis) {len : Nat} {x : Vis} (ha : x.again = true) : (sndRow tr len).set x.j (.bool true) = sndRow (tr ++ [x]) len := by
  apply List.ext_getElem?
  intro i
  by_cases h : i < len
  · rw [sndRow_at _ h, sndN_snoc, List.getElem?_set]
    unfold sndB
    rw [ha]
    by_cases e : x.j = i
    · rw [if_pos e, if_pos (by simpa [sndRow, e] using h), if_pos (by simpa using e)]
      rw [decide_eq_true (show 0 < sndN tr i + 1 by omega)]
    · rw [if_neg e, if_neg (by simpa using e), sndRow_at tr h, Nat.add_zero]
  · rw [List.getElem?_eq_none (by simpa [sndRow] using h), List.getElem?_eq_none (by simpa [sndRow] using h)]
theorem sndRow_first (tr : List Vis) {len : Nat} {x : Vis} (ha : x.again = false) : sndRow (tr ++ [x]) len = sndRow tr len := by
  unfold sndRow
  apply List.map_congr_left
  intro j _
  rw [sndN_snoc]
  unfold sndB
  rw [ha]
  simp

/-- What stays as it is. -/
structure Fix (base : Nat) (c : Blk) (bar : Int) (x : Addr) (len cap : Nat) (vals : Nat → Int) (ax : Option Addr) (lenx capx : Nat) (ext : Nat → Int) (w : World) : Prop where
  cv : w.cell? ⟨c.vb, 0, none⟩ = some (.slice (some x) len cap)
  ce : w.cell? ⟨c.eb, 0, none⟩ = some (.slice ax lenx capx)
  cb : w.cell? ⟨c.bb, 0, none⟩ = some (.float .f64 (fl bar))
  cf : w.cell? ⟨c.fb, 0, none⟩ = some (.slice (some ⟨c.fr, 0, none⟩) len len)
  cs : w.cell? ⟨c.sb, 0, none⟩ = some (.slice (some ⟨c.sr, 0, none⟩) len len)
  cd : w.cell? ⟨c.bd, 0, none⟩ = some (.bool false)
  vals : Vals base x len vals w
  exts : ExtO base ax lenx ext w
  sh : w.frozen? ⟨c.hv, 0, none⟩ = false
  sl : w.frozen? ⟨c.la, 0, none⟩ = false
  s1 : w.frozen? ⟨c.n1, 0, none⟩ = false
  s2 : w.frozen? ⟨c.n2, 0, none⟩ = false
  low : base ≤ w.heap.size
  lh : c.n2 < w.heap.size
/-- What a visit turns. -/
structure Var (base : Nat) (c : Blk) (len : Nat) (tr : List Vis) (w : World) : Prop where
  ch : w.cell? ⟨c.hv, 0, none⟩ = some (.bool (!tr.isEmpty))
  cl : w.cell? ⟨c.la, 0, none⟩ = some (.float .f64 (fl (lastV tr)))
  c1 : w.cell? ⟨c.n1, 0, none⟩ = some (.int .i64 (firsts tr : Int))
  c2 : w.cell? ⟨c.n2, 0, none⟩ = some (.int .i64 (seconds tr : Int))
  rf : w.ownsRow base 4 1 (.slice (some ⟨c.fr, 0, none⟩) len len) len (fstRow tr len)
  rs : w.ownsRow base 4 1 (.slice (some ⟨c.sr, 0, none⟩) len len) len (sndRow tr len)

section
variable {base : Nat} {c : Blk} {bar : Int} {x : Addr} {len cap : Nat} {vals : Nat → Int} {ax : Option Addr} {lenx capx : Nat} {ext : Nat → Int} {w w' : World} {tr : List Vis}
theorem Fix.chg (f : Fix base c bar x len cap vals ax lenx capx ext w) (o : c.Ok) {S : Nat → Prop} (hc : Chg S w w') (hS : ∀ k, S k → base ≤ k ∧ k ≠ c.vb ∧ k ≠ c.eb ∧ k ≠ c.bb ∧ k ≠ c.fb ∧ k ≠ c.sb ∧ k ≠ c.bd) (hz : ∀ a, w'.frozen? a = w.frozen? a) : Fix base c bar x len cap vals ax lenx capx ext w' := by
  obtain ⟨h1, h2, h3, h4, h5, h6, h7, h8, h9, h10, h11⟩ := o
  exact ⟨(hc.cell (World.block_lt_of_cell? w _ f.cv) (fun h => (hS _ h).2.1 rfl)).trans f.cv, (hc.cell (World.block_lt_of_cell? w _ f.ce) (fun h => (hS _ h).2.2.1 rfl)).trans f.ce, (hc.cell (World.block_lt_of_cell? w _ f.cb) (fun h => (hS _ h).2.2.2.1 rfl)).trans f.cb,
    (hc.cell (World.block_lt_of_cell? w _ f.cf) (fun h => (hS _ h).2.2.2.2.1 rfl)).trans f.cf, (hc.cell (World.block_lt_of_cell? w _ f.cs) (fun h => (hS _ h).2.2.2.2.2.1 rfl)).trans f.cs, (hc.cell (World.block_lt_of_cell? w _ f.cd) (fun h => (hS _ h).2.2.2.2.2.2 rfl)).trans f.cd,
    f.vals.chg hc (fun k h => (hS k h).1), f.exts.chg hc (fun k h => (hS k h).1), (hz _).trans f.sh, (hz _).trans f.sl, (hz _).trans f.s1, (hz _).trans f.s2, Nat.le_trans f.low hc.size, Nat.lt_of_lt_of_le f.lh hc.size⟩
theorem Fix.out (f : Fix base c bar x len cap vals ax lenx capx ext w) (o : c.Ok) {S : Nat → Prop} (hc : Chg S w w') (hS : ∀ k, S k → base ≤ k ∧ ¬ c.foot k) : Fix base c bar x len cap vals ax lenx capx ext w' := by
  obtain ⟨h1, h2, h3, h4, h5, h6, h7, h8, h9, h10, h11⟩ := o
  have hn : ∀ k, c.foot k → ¬ S k := fun k h h' => (hS k h').2 h
  have lh := f.lh
  exact ⟨(hc.cell (World.block_lt_of_cell? w _ f.cv) (hn _ (by unfold Blk.foot; simp))).trans f.cv, (hc.cell (World.block_lt_of_cell? w _ f.ce) (hn _ (by unfold Blk.foot; simp))).trans f.ce, (hc.cell (World.block_lt_of_cell? w _ f.cb) (hn _ (by unfold Blk.foot; simp))).trans f.cb,
    (hc.cell (World.block_lt_of_cell? w _ f.cf) (hn _ (by unfold Blk.foot; simp))).trans f.cf, (hc.cell (World.block_lt_of_cell? w _ f.cs) (hn _ (by unfold Blk.foot; simp))).trans f.cs, (hc.cell (World.block_lt_of_cell? w _ f.cd) (hn _ (by unfold Blk.foot; simp))).trans f.cd,
    f.vals.chg hc (fun k h => (hS k h).1), f.exts.chg hc (fun k h => (hS k h).1),
    (hc.frozen (p := ⟨c.hv, 0, none⟩) (show c.hv < _ by omega) (hn _ (by unfold Blk.foot; simp))).trans f.sh, (hc.frozen (p := ⟨c.la, 0, none⟩) (show c.la < _ by omega) (hn _ (by unfold Blk.foot; simp))).trans f.sl,
    (hc.frozen (p := ⟨c.n1, 0, none⟩) (show c.n1 < _ by omega) (hn _ (by unfold Blk.foot; simp))).trans f.s1, (hc.frozen (p := ⟨c.n2, 0, none⟩) (show c.n2 < _ by omega) (hn _ (by unfold Blk.foot; simp))).trans f.s2, Nat.le_trans f.low hc.size, Nat.lt_of_lt_of_le f.lh hc.size⟩
theorem Var.out (v : Var base c len tr w) {S : Nat → Prop} (hc : Chg S w w') (hS : ∀ k, S k → ¬ c.foot k) : Var base c len tr w' := by
  have hn : ∀ k, c.foot k → ¬ S k := fun k h h' => hS k h' h
  exact ⟨(hc.cell (World.block_lt_of_cell? w _ v.ch) (hn _ (by unfold Blk.foot; simp))).trans v.ch, (hc.cell (World.block_lt_of_cell? w _ v.cl) (hn _ (by unfold Blk.foot; simp))).trans v.cl, (hc.cell (World.block_lt_of_cell? w _ v.c1) (hn _ (by unfold Blk.foot; simp))).trans v.c1, (hc.cell (World.block_lt_of_cell? w _ v.c2) (hn _ (by unfold Blk.foot; simp))).trans v.c2,
    hc.row v.rf (fun k e => by cases e; exact hn _ (by unfold Blk.foot; simp)), hc.row v.rs (fun k e => by cases e; exact hn _ (by unfold Blk.foot; simp))⟩

/-- The stores of a visit: have, last, a count, a row. -/
def visW (w : World) (hv la n fr j : Nat) (y : Nat) (m : Int) : World := (((w.setCell ⟨hv, 0, none⟩ (.bool true)).setCell ⟨la, 0, none⟩ (.float .f64 y)).setCell ⟨n, 0, none⟩ (.int .i64 m)).setCell ⟨fr, j, none⟩ (.bool true)
theorem visW_chg (w : World) (hv la n fr j : Nat) (y : Nat) (m : Int) : Chg (fun k => k = hv ∨ k = la ∨ k = n ∨ k = fr) w (visW w hv la n fr j y m) :=
  (((Chg.setCell (S := fun k => k = hv ∨ k = la ∨ k = n ∨ k = fr) w ⟨hv, 0, none⟩ _ (.inl rfl)).trans (Chg.setCell (S := fun k => k = hv ∨ k = la ∨ k = n ∨ k = fr) _ ⟨la, 0, none⟩ _ (.inr (.inl rfl))) (fun _ _ h => h)).trans (Chg.setCell (S := fun k => k = hv ∨ k = la ∨ k = n ∨ k = fr) _ ⟨n, 0, none⟩ _ (.inr (.inr (.inl rfl)))) (fun _ _ h => h)).trans (Chg.setCell (S := fun k => k = hv ∨ k = la ∨ k = n ∨ k = fr) _ ⟨fr, j, none⟩ _ (.inr (.inr (.inr rfl)))) (fun _ _ h => h)
theorem ne_addr {a b i j : Nat} (h : a ≠ b) : (⟨a, i, none⟩ : Addr) ≠ ⟨b, j, none⟩ := fun e => h (Addr.mk.inj e).1
/-- Such a visit's cells. -/
theorem visW_cells {w : World} {hv la n fr j : Nat} {y : Nat} {m : Int} {u1 u2 u3 : Value} (a1 : hv ≠ la) (a2 : hv ≠ n) (a3 : hv ≠ fr) (a4 : la ≠ n) (a5 : la ≠ fr) (a6 : n ≠ fr) (b1 : w.cell? ⟨hv, 0, none⟩ = some u1) (b2 : w.cell? ⟨la, 0, none⟩ = some u2) (b3 : w.cell? ⟨n, 0, none⟩ = some u3) :
    (visW w hv la n fr j y m).cell? ⟨hv, 0, none⟩ = some (.bool true) ∧ (visW w hv la n fr j y m).cell? ⟨la, 0, none⟩ = some (.float .f64 y) ∧ (visW w hv la n fr j y m).cell? ⟨n, 0, none⟩ = some (.int .i64 m) := by
  unfold visW
  refine ⟨?_, ?_, ?_⟩
  · rw [World.cell?_setCell_other _ _ _ _ (ne_addr (Ne.symm a3)), World.cell?_setCell_other _ _ _ _ (ne_addr (Ne.symm a2)), World.cell?_setCell_other _ _ _ _ (ne_addr (Ne.symm a1)), World.cell?_setCell_same _ _ _ b1]
  · rw [World.cell?_setCell_other _ _ _ _ (ne_addr (Ne.symm a5)), World.cell?_setCell_other _ _ _ _ (ne_addr (Ne.symm a4)), World.cell?_setCell_same _ _ _ (u := u2) (by rw [World.cell?_setCell_other _ _ _ _ (ne_addr a1)]; exact b2)]
  · rw [World.cell?_setCell_other _ _ _ _ (ne_addr (Ne.symm a6)), World.cell?_setCell_same _ _ _ (u := u3) (by rw [World.cell?_setCell_other _ _ _ _ (ne_addr a4), World.cell?_setCell_other _ _ _ _ (ne_addr a2)]; exact b3)]
theorem visW_row {w : World} {base : Nat} {hv la n fr j len : Nat} {y : Nat} {m : Int} {xs : List Value} (a3 : hv ≠ fr) (a5 : la ≠ fr) (a6 : n ≠ fr) (hr : w.ownsRow base 4 1 (.slice (some ⟨fr, 0, none⟩) len len) len xs) : (visW w hv la n fr j y m).ownsRow base 4 1 (.slice (some ⟨fr, 0, none⟩) len len) len (xs.set j (.bool true)) := by
  unfold visW
  refine (World.ownsRow.stored ?_ j (.bool true)).1
  have k1 : Chg (fun k => k = hv ∨ k = la ∨ k = n) w (((w.setCell ⟨hv, 0, none⟩ (.bool true)).setCell ⟨la, 0, none⟩ (.float .f64 y)).setCell ⟨n, 0, none⟩ (.int .i64 m)) :=
    ((Chg.setCell (S := fun k => k = hv ∨ k = la ∨ k = n) w ⟨hv, 0, none⟩ _ (.inl rfl)).trans (Chg.setCell (S := fun k => k = hv ∨ k = la ∨ k = n) _ ⟨la, 0, none⟩ _ (.inr (.inl rfl))) (fun _ _ h => h)).trans (Chg.setCell (S := fun k => k = hv ∨ k = la ∨ k = n) _ ⟨n, 0, none⟩ _ (.inr (.inr rfl))) (fun _ _ h => h)
  exact k1.row hr (fun k e => by
    cases e
    rintro (e | e | e)
    · exact a3 e.symm
    · exact a5 e.symm
    · exact a6 e.symm)
theorem visW_frozen (w : World) (hv la n fr j : Nat) (y : Nat) (m : Int) (a : Addr) : (visW w hv la n fr j y m).frozen? a = w.frozen? a := by
  unfold visW
  rw [World.frozen?_setCell, World.frozen?_setCell, World.frozen?_setCell, World.frozen?_setCell]

/-- Behind a first visit. -/
theorem Var.first (v : Var base c len tr w) (o : c.Ok) {u : Vis} (ha : u.again = false) : Var base c len (tr ++ [u]) (visW w c.hv c.la c.n1 c.fr u.j (fl u.v) ((firsts tr : Int) + 1)) := by
  obtain ⟨h1, h2, h3, h4, h5, h6, h7, h8, h9, h10, h11⟩ := o
  obtain ⟨k1, k2, k3⟩ := visW_cells (w := w) (hv := c.hv) (la := c.la) (n := c.n1) (fr := c.fr) (j := u.j) (y := fl u.v) (m := (firsts tr : Int) + 1) (by omega) (by omega) (by omega) (by omega) (by omega) (by omega) v.ch v.cl v.c1
  have hc := visW_chg w c.hv c.la c.n1 c.fr u.j (fl u.v) ((firsts tr : Int) + 1)
  refine ⟨?_, ?_, ?_, ?_, ?_, ?_⟩
  · rw [k1]; simp
  · rw [k2, lastV_snoc]
  · rw [k3, firsts_snoc, ha, if_pos (by rfl), Int.natCast_add]; rfl
  · rw [seconds_snoc, ha, if_neg (by simp), Nat.add_zero]
    exact (hc.cell (World.block_lt_of_cell? w _ v.c2) (by dsimp only; omega)).trans v.c2
  · rw [← fstRow_first tr ha]
    exact visW_row (by omega) (by omega) (by omega) v.rf
  · rw [sndRow_first tr ha]
    exact hc.row v.rs (fun k e => by have e' : c.sr = k := Option.some.inj e; omega)
/-- Behind a second visit. -/
theorem Var.second (v : Var base c len tr w) (o : c.Ok) {u : Vis} (ha : u.again = true) : Var base c len (tr ++ [u]) (visW w c.hv c.la c.n2 c.sr u.j (fl u.v) ((seconds tr : Int) + 1)) := by
  obtain ⟨h1, h2, h3, h4, h5, h6, h7, h8, h9, h10, h11⟩ := o
  obtain ⟨k1, k2, k3⟩ := visW_cells (w := w) (hv := c.hv) (la := c.la) (n := c.n2) (fr := c.sr) (j := u.j) (y := fl u.v) (m := (seconds tr : Int) + 1) (by omega) (by omega) (by omega) (by omega) (by omega) (by omega) v.ch v.cl v.c2
  have hc := visW_chg w c.hv c.la c.n2 c.sr u.j (fl u.v) ((seconds tr : Int) + 1)
  refine ⟨?_, ?_, ?_, ?_, ?_, ?_⟩
  · rw [k1]; simp
  · rw [k2, lastV_snoc]
  · rw [firsts_snoc, ha, if_neg (by simp), Nat.add_zero]
    exact (hc.cell (World.block_lt_of_cell? w _ v.c1) (by dsimp only; omega)).trans v.c1
  · rw [k3, seconds_snoc, ha, if_pos rfl, Int.natCast_add]; rfl
  · rw [fstRow_again tr ha]
    exact hc.row v.rf (fun k e => by have e' : c.fr = k := Option.some.inj e; omega)
  · rw [← sndRow_again tr ha]
    exact visW_row (by omega) (by omega) (by omega) v.rs
end
end Go.Proofs.Ybulkbuhe
