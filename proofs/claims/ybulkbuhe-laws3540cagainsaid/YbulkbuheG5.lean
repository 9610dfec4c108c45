/-
  LawS3540CAgain: the state that the law lays.
-/
import Derived.Test.YbulkbuheG4
namespace Go.Proofs.Ybulkbuhe
open Go.RowKit Fl

theorem keepCell {w w' : World} (h : w.grownBy w' none) {a : Addr} {v : Value} (hc : w.cell? a = some v) : w'.cell? a = some v := ((Chg.grown (S := fun _ => False) h (fun k e => by cases e)).cell (World.block_lt_of_cell? w _ hc) id).trans hc
theorem keepNew {w : World} {b : Nat} {v0 v u : Value} {t : TypeId} (hb : b = w.heap.size) {a : Addr} (hc : w.cell? a = some u) : ((w.alloc (.cells #[v0] t)).setCell ⟨b, 0, none⟩ v).cell? a = some u := ((new_chg hb).cell (World.block_lt_of_cell? w _ hc) id).trans hc
theorem Chg.keep {w w' : World} (h : Chg (fun _ => False) w w') {a : Addr} {v : Value} (hc : w.cell? a = some v) : w'.cell? a = some v := (h.cell (World.block_lt_of_cell? w _ hc) id).trans hc
theorem Chg.keepF {w w' : World} (h : Chg (fun _ => False) w w') {a : Addr} (hl : a.block < w.heap.size) (hc : w.frozen? a = false) : w'.frozen? a = false := (h.frozen hl id).trans hc

def agnW (w3 : World) (s sr len : Nat) : World :=
  ((((((((((((w3.alloc (.cells #[.slice none 0 0] 46)).setCell ⟨s, 0, none⟩ (.slice (some ⟨sr, 0, none⟩) len len)).alloc (.cells #[.bool false] 4)).setCell ⟨s + 1, 0, none⟩ (.bool false)).alloc (.cells #[.bool false] 4)).setCell ⟨s + 1 + 1, 0, none⟩ (.bool false)).alloc (.cells #[.float .f64 0] 35)).setCell ⟨s + 1 + 1 + 1, 0, none⟩ (.float .f64 0)).alloc (.cells #[.int .i64 0] 3)).alloc (.cells #[.int .i64 0] 3)).setCell ⟨s + 1 + 1 + 1 + 1, 0, none⟩ (.int .i64 0)).setCell ⟨s + 1 + 1 + 1 + 1 + 1, 0, none⟩ (.int .i64 0))
/-- The cells laid last. -/
structure Late (w3 : World) (s sr len : Nat) (W : World) : Prop where
  cs : W.cell? ⟨s, 0, none⟩ = some (.slice (some ⟨sr, 0, none⟩) len len)
  cd : W.cell? ⟨s + 1, 0, none⟩ = some (.bool false)
  ch : W.cell? ⟨s + 1 + 1, 0, none⟩ = some (.bool false)
  cl : W.cell? ⟨s + 1 + 1 + 1, 0, none⟩ = some (.float .f64 0)
  c1 : W.cell? ⟨s + 1 + 1 + 1 + 1, 0, none⟩ = some (.int .i64 0)
  c2 : W.cell? ⟨s + 1 + 1 + 1 + 1 + 1, 0, none⟩ = some (.int .i64 0)
  sh : W.frozen? ⟨s + 1 + 1, 0, none⟩ = false
  sl : W.frozen? ⟨s + 1 + 1 + 1, 0, none⟩ = false
  s1 : W.frozen? ⟨s + 1 + 1 + 1 + 1, 0, none⟩ = false
  s2 : W.frozen? ⟨s + 1 + 1 + 1 + 1 + 1, 0, none⟩ = false
  chg : Chg (fun _ => False) w3 W
  size : W.heap.size = s + 1 + 1 + 1 + 1 + 1 + 1
theorem agnW_late (w3 : World) (s sr len : Nat) (hs : s = w3.heap.size) : Late w3 s sr len (agnW w3 s sr len) := by
  unfold agnW
  have c1 := new_cell (w := w3) (v0 := .slice none 0 0) (v := .slice (some ⟨sr, 0, none⟩) len len) (t := 46) hs
  have k1 := new_chg (w := w3) (v0 := .slice none 0 0) (v := .slice (some ⟨sr, 0, none⟩) len len) (t := 46) hs
  have z1 := new_size (w := w3) (b := s) (v0 := .slice none 0 0) (v := .slice (some ⟨sr, 0, none⟩) len len) (t := 46)
  rw [← hs] at z1
  generalize (w3.alloc (.cells #[.slice none 0 0] 46)).setCell ⟨s, 0, none⟩ (.slice (some ⟨sr, 0, none⟩) len len) = W1 at c1 k1 z1 ⊢
  have c2 := new_cell (w := W1) (v0 := .bool false) (v := .bool false) (t := 4) z1.symm
  have k2 := new_chg (w := W1) (v0 := .bool false) (v := .bool false) (t := 4) z1.symm
  have z2 := new_size (w := W1) (b := s + 1) (v0 := .bool false) (v := .bool false) (t := 4)
  rw [z1] at z2
  generalize (W1.alloc (.cells #[.bool false] 4)).setCell ⟨s + 1, 0, none⟩ (.bool false) = W2 at c2 k2 z2 ⊢
  have c3 := new_cell (w := W2) (v0 := .bool false) (v := .bool false) (t := 4) z2.symm
  have f3 := new_soft (w := W2) (v0 := .bool false) (v := .bool false) (t := 4) z2.symm 0
  have k3 := new_chg (w := W2) (v0 := .bool false) (v := .bool false) (t := 4) z2.symm
  have z3 := new_size (w := W2) (b := s + 1 + 1) (v0 := .bool false) (v := .bool false) (t := 4)
  rw [z2] at z3
  generalize (W2.alloc (.cells #[.bool false] 4)).setCell ⟨s + 1 + 1, 0, none⟩ (.bool false) = W3 at c3 f3 k3 z3 ⊢
  have c4 := new_cell (w := W3) (v0 := .float .f64 0) (v := .float .f64 0) (t := 35) z3.symm
  have f4 := new_soft (w := W3) (v0 := .float .f64 0) (v := .float .f64 0) (t := 35) z3.symm 0
  have k4 := new_chg (w := W3) (v0 := .float .f64 0) (v := .float .f64 0) (t := 35) z3.symm
  have z4 := new_size (w := W3) (b := s + 1 + 1 + 1) (v0 := .float .f64 0) (v := .float .f64 0) (t := 35)
  rw [z3] at z4
  generalize (W3.alloc (.cells #[.float .f64 0] 35)).setCell ⟨s + 1 + 1 + 1, 0, none⟩ (.float .f64 0) = W4 at c4 f4 k4 z4 ⊢
  have z5 : (W4.alloc (.cells #[.int .i64 0] 3)).heap.size = s + 1 + 1 + 1 + 1 + 1 := by simp [z4]
  have c5 : (W4.alloc (.cells #[.int .i64 0] 3)).cell? ⟨s + 1 + 1 + 1 + 1, 0, none⟩ = some (.int .i64 0) := by rw [← z4, World.cell?_alloc_new]; rfl
  have f5 : (W4.alloc (.cells #[.int .i64 0] 3)).frozen? ⟨s + 1 + 1 + 1 + 1, 0, none⟩ = false := by rw [← z4, World.frozen?_alloc_new]
  have k5 : Chg (fun _ => False) W4 (W4.alloc (.cells #[.int .i64 0] 3)) := Chg.alloc _ _ _
  generalize W4.alloc (.cells #[.int .i64 0] 3) = W5 at z5 c5 f5 k5 ⊢
  have z6 : (W5.alloc (.cells #[.int .i64 0] 3)).heap.size = s + 1 + 1 + 1 + 1 + 1 + 1 := by simp [z5]
  have c6 : (W5.alloc (.cells #[.int .i64 0] 3)).cell? ⟨s + 1 + 1 + 1 + 1 + 1, 0, none⟩ = some (.int .i64 0) := by rw [← z5, World.cell?_alloc_new]; rfl
  have f6 : (W5.alloc (.cells #[.int .i64 0] 3)).frozen? ⟨s + 1 + 1 + 1 + 1 + 1, 0, none⟩ = false := by rw [← z5, World.frozen?_alloc_new]
  have k6 : Chg (fun _ => False) W5 (W5.alloc (.cells #[.int .i64 0] 3)) := Chg.alloc _ _ _
  have c5' := k6.keep c5
  have f5' := k6.keepF (show s + 1 + 1 + 1 + 1 < _ by omega) f5
  generalize W5.alloc (.cells #[.int .i64 0] 3) = W6 at z6 c6 f6 k6 c5' f5' ⊢
  have k7 : Chg (fun k => k = s + 1 + 1 + 1 + 1 ∨ k = s + 1 + 1 + 1 + 1 + 1) W6 ((W6.setCell ⟨s + 1 + 1 + 1 + 1, 0, none⟩ (.int .i64 0)).setCell ⟨s + 1 + 1 + 1 + 1 + 1, 0, none⟩ (.int .i64 0)) :=
    (Chg.setCell (S := fun k => k = s + 1 + 1 + 1 + 1 ∨ k = s + 1 + 1 + 1 + 1 + 1) W6 ⟨s + 1 + 1 + 1 + 1, 0, none⟩ _ (.inl rfl)).trans (Chg.setCell (S := fun k => k = s + 1 + 1 + 1 + 1 ∨ k = s + 1 + 1 + 1 + 1 + 1) _ ⟨s + 1 + 1 + 1 + 1 + 1, 0, none⟩ _ (.inr rfl)) (fun _ _ h => h)
  have k47 : Chg (fun _ => False) W4 ((W6.setCell ⟨s + 1 + 1 + 1 + 1, 0, none⟩ (.int .i64 0)).setCell ⟨s + 1 + 1 + 1 + 1 + 1, 0, none⟩ (.int .i64 0)) := (k5.trans k6 (fun _ _ h => h)).trans k7 (fun k hk e => by omega)
  have c7 : ((W6.setCell ⟨s + 1 + 1 + 1 + 1, 0, none⟩ (.int .i64 0)).setCell ⟨s + 1 + 1 + 1 + 1 + 1, 0, none⟩ (.int .i64 0)).cell? ⟨s + 1 + 1 + 1 + 1, 0, none⟩ = some (.int .i64 0) := by
    rw [World.cell?_setCell_other _ _ _ _ (ne_addr (by omega)), World.cell?_setCell_same _ _ _ c5']
  have c8 : ((W6.setCell ⟨s + 1 + 1 + 1 + 1, 0, none⟩ (.int .i64 0)).setCell ⟨s + 1 + 1 + 1 + 1 + 1, 0, none⟩ (.int .i64 0)).cell? ⟨s + 1 + 1 + 1 + 1 + 1, 0, none⟩ = some (.int .i64 0) :=
    World.cell?_setCell_same _ _ _ (u := .int .i64 0) (by rw [World.cell?_setCell_other _ _ _ _ (ne_addr (by omega))]; exact c6)
  have f7 : ((W6.setCell ⟨s + 1 + 1 + 1 + 1, 0, none⟩ (.int .i64 0)).setCell ⟨s + 1 + 1 + 1 + 1 + 1, 0, none⟩ (.int .i64 0)).frozen? ⟨s + 1 + 1 + 1 + 1, 0, none⟩ = false := by rw [World.frozen?_setCell, World.frozen?_setCell]; exact f5'
  have f8 : ((W6.setCell ⟨s + 1 + 1 + 1 + 1, 0, none⟩ (.int .i64 0)).setCell ⟨s + 1 + 1 + 1 + 1 + 1, 0, none⟩ (.int .i64 0)).frozen? ⟨s + 1 + 1 + 1 + 1 + 1, 0, none⟩ = false := by rw [World.frozen?_setCell, World.frozen?_setCell]; exact f6
  have z8 : ((W6.setCell ⟨s + 1 + 1 + 1 + 1, 0, none⟩ (.int .i64 0)).setCell ⟨s + 1 + 1 + 1 + 1 + 1, 0, none⟩ (.int .i64 0)).heap.size = s + 1 + 1 + 1 + 1 + 1 + 1 := by simp [World.setCell, z6]
  generalize (W6.setCell ⟨s + 1 + 1 + 1 + 1, 0, none⟩ (.int .i64 0)).setCell ⟨s + 1 + 1 + 1 + 1 + 1, 0, none⟩ (.int .i64 0) = W8 at k47 c7 c8 f7 f8 z8 ⊢
  have k37 := k4.trans k47 (fun _ _ h => h)
  have k27 := k3.trans k37 (fun _ _ h => h)
  have k17 := k2.trans k27 (fun _ _ h => h)
  exact ⟨k17.keep c1, k27.keep c2, k37.keep c3, k47.keep c4, c7, c8, k37.keepF (show s + 1 + 1 < _ by omega) f3, k47.keepF (show s + 1 + 1 + 1 < _ by omega) f4, f7, f8, k1.trans k17 (fun _ _ h => h), z8⟩

theorem agn_start {w1 w2 w3 : World} {base vb eb : Nat} {x : Addr} {len cap : Nat} {vals : Nat → Int} {ax : Option Addr} {lenx capx : Nat} {ext : Nat → Int} (bar : Int) (hve : vb < eb) (hew : eb < w1.heap.size) (hbv : base ≤ vb)
    (hcv : w1.cell? ⟨vb, 0, none⟩ = some (.slice (some x) len cap)) (hce : w1.cell? ⟨eb, 0, none⟩ = some (.slice ax lenx capx)) (hV : Vals base x len vals w1) (hX : ExtO base ax lenx ext w1)
    (hg2 : ((w1.alloc (.cells #[.float .f64 0] 35)).setCell ⟨w1.heap.size, 0, none⟩ (.float .f64 (fl bar))).grownBy w2 none) (ho2 : w2.ownsRow base 4 1 (.slice (some ⟨w1.heap.size + 1, 0, none⟩) len len) len (List.replicate len (.bool false)))
    (hg3 : ((w2.alloc (.cells #[.slice none 0 0] 46)).setCell ⟨w2.heap.size, 0, none⟩ (.slice (some ⟨w1.heap.size + 1, 0, none⟩) len len)).grownBy w3 none) (ho3 : w3.ownsRow base 4 1 (.slice (some ⟨w2.heap.size + 1, 0, none⟩) len len) len (List.replicate len (.bool false)))
    (c : Blk) (hc : c = ⟨vb, eb, w1.heap.size, w1.heap.size + 1, w2.heap.size, w2.heap.size + 1, w3.heap.size, w3.heap.size + 1, w3.heap.size + 1 + 1, w3.heap.size + 1 + 1 + 1, w3.heap.size + 1 + 1 + 1 + 1, w3.heap.size + 1 + 1 + 1 + 1 + 1⟩) :
    c.Ok ∧ EG base c bar x len cap vals ax lenx capx ext ⟨0, []⟩ c.foot (agnW w3 w3.heap.size (w2.heap.size + 1) len) ∧ Chg (fun _ => False) w1 (agnW w3 w3.heap.size (w2.heap.size + 1) len) := by
  subst hc
  have k1 := new_chg (w := w1) (v0 := .float .f64 0) (v := .float .f64 (fl bar)) (t := 35) rfl
  have c1 := new_cell (w := w1) (v0 := .float .f64 0) (v := .float .f64 (fl bar)) (t := 35) rfl
  have g2 : Chg (fun _ => False) _ w2 := Chg.grown hg2 (fun k e => by cases e)
  have k3 := new_chg (w := w2) (v0 := .slice none 0 0) (v := .slice (some ⟨w1.heap.size + 1, 0, none⟩) len len) (t := 46) rfl
  have c3 := new_cell (w := w2) (v0 := .slice none 0 0) (v := .slice (some ⟨w1.heap.size + 1, 0, none⟩) len len) (t := 46) rfl
  have g3 : Chg (fun _ => False) _ w3 := Chg.grown hg3 (fun k e => by cases e)
  have L := agnW_late w3 w3.heap.size (w2.heap.size + 1) len rfl
  have l2 := (ho2.lt _ rfl).2
  have l3 := (ho3.lt _ rfl).2
  have k23 := k3.trans g3 (fun _ _ h => h)
  have k2E := k23.trans L.chg (fun _ _ h => h)
  have k3E := g3.trans L.chg (fun _ _ h => h)
  have k1E := g2.trans k2E (fun _ _ h => h)
  have kE := k1.trans k1E (fun _ _ h => h)
  have hsz := L.size
  refine ⟨⟨hve, hew, by dsimp only; omega, by dsimp only; omega, by dsimp only; omega, by dsimp only; omega, by dsimp only; omega, by dsimp only; omega, by dsimp only; omega, by dsimp only; omega, by dsimp only; omega⟩, ⟨fun k => Iff.rfl, ⟨kE.keep hcv, kE.keep hce, k1E.keep c1, k3E.keep c3, L.cs, L.cd, hV.chg kE (fun _ h => h.elim), hX.chg kE (fun _ h => h.elim), L.sh, L.sl, L.s1, L.s2, ?_, ?_⟩, ⟨L.ch, ?_, L.c1, L.c2, ?_, ?_⟩⟩, kE⟩
  · have := kE.size; omega
  · dsimp only; omega
  · rw [L.cl]
    show _ = some (Value.float .f64 (fl 0))
    rw [fl_zero]
  · rw [← fstRow_nil]
    exact k2E.row ho2 (fun _ _ => id)
  · rw [← sndRow_nil]
    exact L.chg.row ho3 (fun _ _ => id)
end Go.Proofs.Ybulkbuhe
