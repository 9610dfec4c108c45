/-
  The summing anew, as steps from state to state; the end of leastFirst.
-/
import Derived.Test.YbulkbuheB10
namespace Go.Proofs.Ybulkbuhe
open Go.RowKit Fl

theorem mn_congr (xs ys : Nat → Int) : ∀ k, (∀ i, i ≤ k → xs i = ys i) → mn xs k = mn ys k := by
  intro k
  induction k with
  | zero => intro h; exact h 0 (Nat.le_refl _)
  | succ k ih =>
    intro h
    show min (mn xs k) (xs (k + 1)) = min (mn ys k) (ys (k + 1))
    rw [ih (fun i hi => h i (by omega)), h (k + 1) (Nat.le_refl _)]

/-- The nodes from index k on are summed anew. -/
def Rs {base : Nat} (C : Client base) (h : Shape) (vals : Nat → Int) (tb cb nb cap : Nat) (F0 : Nat → Prop) (w : World) (q : List Un) (ent : List Stp) (tr : List Vis) (b : Nat) (F : Nat → Prop) (qv ev : Value) (k : Nat) (w2 : World) : Prop :=
  ∃ sm sn, Fresh h vals C.ext tr ent sm sn k ∧ Sys C h w2 tb cb nb cap sm sn qv q ⟨b, tr⟩ F ∧ Frm base tb cb nb F0 w ent F qv ev w2

def zo3 : Obj := .cells #[.int .i32 0, .int .i32 0, .int .i32 0] 69
def put3 (w : World) (b : Nat) (e : Stp) : World := ((w.setCell ⟨b, 0, none⟩ (.int .i32 e.n)).setCell ⟨b, 1, none⟩ (.int .i32 e.above)).setCell ⟨b, 2, none⟩ (.int .i32 e.i)
theorem put3_chg (w : World) (b : Nat) (e : Stp) : Chg (fun k => k = b) w (put3 w b e) :=
  ((Chg.setCell (S := fun k => k = b) w ⟨b, 0, none⟩ _ rfl).trans (Chg.setCell (S := fun k => k = b) _ ⟨b, 1, none⟩ _ rfl) (fun _ _ h => h)).trans (Chg.setCell (S := fun k => k = b) _ ⟨b, 2, none⟩ _ rfl) (fun _ _ h => h)
/-- The entry's cells lie in block b. -/
structure Box3 (w : World) (b : Nat) (e : Stp) : Prop where
  c0 : w.cell? ⟨b, 0, none⟩ = some (.int .i32 e.n)
  c1 : w.cell? ⟨b, 1, none⟩ = some (.int .i32 e.above)
  c2 : w.cell? ⟨b, 2, none⟩ = some (.int .i32 e.i)
theorem Box3.chg {S : Nat → Prop} {w w' : World} {b : Nat} {e : Stp} (h : Box3 w b e) (k : Chg S w w') (hn : ¬ S b) : Box3 w' b e := by
  have hlt := World.block_lt_of_cell? w _ h.c0
  exact ⟨(k.cell (p := ⟨b, 0, none⟩) hlt hn).trans h.c0, (k.cell (p := ⟨b, 1, none⟩) hlt hn).trans h.c1, (k.cell (p := ⟨b, 2, none⟩) hlt hn).trans h.c2⟩
theorem put3_box (w : World) (b : Nat) (e : Stp) (hb : b = w.heap.size) : Box3 (put3 (w.alloc zo3) b e) b e := by
  have hc : ∀ k, (w.alloc zo3).cell? ⟨b, k, none⟩ = (#[Value.int .i32 0, .int .i32 0, .int .i32 0] : Array Value)[k]? := fun k => by subst hb; exact World.cell?_alloc_new ..
  have h0 : (w.alloc zo3).cell? ⟨b, 0, none⟩ = some (.int .i32 0) := hc 0
  have h1 : (w.alloc zo3).cell? ⟨b, 1, none⟩ = some (.int .i32 0) := hc 1
  have h2 : (w.alloc zo3).cell? ⟨b, 2, none⟩ = some (.int .i32 0) := hc 2
  unfold put3
  refine ⟨?_, ?_, ?_⟩
  · rw [World.cell?_setCell_other _ _ _ _ (by simp), World.cell?_setCell_other _ _ _ _ (by simp), World.cell?_setCell_same _ _ _ h0]
  · rw [World.cell?_setCell_other _ _ _ _ (by simp), World.cell?_setCell_same _ _ _ (u := .int .i32 0) (by rw [World.cell?_setCell_other _ _ _ _ (by simp)]; exact h1)]
  · rw [World.cell?_setCell_same _ _ _ (u := .int .i32 0) (by rw [World.cell?_setCell_other _ _ _ _ (by simp), World.cell?_setCell_other _ _ _ _ (by simp)]; exact h2)]
theorem put3_idle (w : World) (e : Stp) : Chg (fun _ => False) w (put3 (w.alloc zo3) w.heap.size e) :=
  (Chg.alloc (fun _ => False) w zo3).trans (put3_chg _ _ _) (fun k hk e => by subst e; exact Nat.lt_irrefl _ hk)

theorem Tr.setT {w : World} {base tb cb nb N cap : Nat} {M : Nat → Nat → Value} (h : Tr w base tb cb nb N cap M) (i : Nat) (h0 : i ≠ 0) (h2 : i ≠ 2) (v : Value) : Tr (w.setCell ⟨tb, i, none⟩ v) base tb cb nb N cap M := by
  have k : Chg (fun k => k = tb) w (w.setCell ⟨tb, i, none⟩ v) := Chg.setCell w _ v rfl
  obtain ⟨c, hc⟩ := h.t0
  refine ⟨⟨c, ?_⟩, ?_, (k.cell h.ltc (fun e => h.tbc e.symm)).trans h.c0, k.row h.row (fun i e => by cases e; exact fun e => h.tbn e.symm), h.tbc, h.tbn, h.cbn, h.btb, h.bcb, fun i => ?_, fun i => ?_, h.small⟩
  · rw [World.cell?_setCell_other _ _ _ _ (by intro e; exact h0 (Addr.mk.inj e).2.1)]; exact hc
  · rw [World.cell?_setCell_other _ _ _ _ (by intro e; exact h2 (Addr.mk.inj e).2.1)]; exact h.t2
  · rw [World.frozen?_setCell]; exact h.softt i
  · rw [World.frozen?_setCell]; exact h.softc i

section
variable {base : Nat} {C : Client base} {h : Shape} {key : Int} {vals : Nat → Int} {tb cb nb cap : Nat} {F0 : Nat → Prop} {w : World} {q : List Un} {ent : List Stp} {tr : List Vis} {sm sm' : Nat → Nat → Int} {sn sn' : Nat → Int} {b : Nat} {F : Nat → Prop} {qv ev : Value} {w2 w3 : World}

/-- The end. -/
theorem Rs.fin (R : Rs C h vals tb cb nb cap F0 w q ent tr b F qv ev 0 w2) (I : Inv h key C.bar vals C.ext q tr sm b) (E : Ents h q tr ent) (o : h.Ok) (hx : ∀ u ∈ q, C.bar ≤ u.v) (v1 v2 : Value) (n : Nat) :
    LFPost C h key vals tb cb nb cap F0 w (.returned (.tuple #[])) (((w2.setCell ⟨tb, 5, none⟩ v1).setCell ⟨tb, 6, none⟩ v2).drewN n) := by
  obtain ⟨sm1, sn1, fr, y, f⟩ := R
  obtain ⟨M, hT, hM⟩ := y.mem
  obtain ⟨f1, f2, f3⟩ := I.finish hx
  have hk : Chg (fun k => k = tb) w2 (((w2.setCell ⟨tb, 5, none⟩ v1).setCell ⟨tb, 6, none⟩ v2).drewN n) := ((Chg.setCell (S := fun k => k = tb) w2 ⟨tb, 5, none⟩ v1 rfl).trans (Chg.setCell (S := fun k => k = tb) _ ⟨tb, 6, none⟩ v2 rfl) (fun _ _ h => h)).trans (Chg.drewN _ _ n) (fun _ _ h => h)
  have hroot := fr.node 0 _ (Nat.le_refl _) E.head
  rw [o.root0, o.rootlen] at hroot
  refine ⟨sm1, sn1, tr, F, rfl, ⟨M, ((hT.setT 5 (by decide) (by decide) v1).setT 6 (by decide) (by decide) v2).drewN n, hM⟩, ?_, I.good, f1, f2, fr.leaf, hroot, (f.chg.mono (fun k _ e => ?_)).trans hk (fun k _ e => .inr (.inl e)), f.fnew⟩
  · rw [← f3]
    exact C.keep _ _ _ _ _ y.e hk (fun k e => by subst e; exact ⟨hT.btb, y.ft⟩)
  · rcases e with e | e
    · exact .inl e
    · exact .inr (.inr e)
theorem Rs.first (I : Inv h key C.bar vals C.ext q tr sm b) (y : Sys C h w2 tb cb nb cap sm sn qv q ⟨b, tr⟩ F) (f : Frm base tb cb nb F0 w ent F qv ev w2) : Rs C h vals tb cb nb cap F0 w q ent tr b F qv ev ent.length w2 := ⟨sm, sn, Fresh.start I, y, f⟩
theorem Rs.idle {k : Nat} (R : Rs C h vals tb cb nb cap F0 w q ent tr b F qv ev k w2) (hc : Chg (fun _ => False) w2 w3) : Rs C h vals tb cb nb cap F0 w q ent tr b F qv ev k w3 := by
  obtain ⟨sm1, sn1, fr, y, f⟩ := R
  exact ⟨sm1, sn1, fr, y.idle hc (fun _ e => e.elim), f.idle hc⟩
/-- All summaries are small. -/
theorem Fresh.range {k : Nat} (R : Fresh h vals C.ext tr ent sm sn k) (hv : ∀ j, 0 ≤ vals j ∧ vals j ≤ 255) (he : ∀ j, 0 ≤ C.ext j ∧ C.ext j ≤ 255) (n i : Nat) (h1 : 1 ≤ n) (h2 : n < h.N) (hi : i < h.cnt n) : 0 ≤ sm n i ∧ sm n i ≤ 510 := by
  have hcur : ∀ j, 0 ≤ curOf vals C.ext tr j ∧ curOf vals C.ext tr j ≤ 510 := fun j => by
    unfold curOf
    have := hv j
    have := he j
    split <;> omega
  cases hl : h.leaf n with
  | true => rw [R.leaf n i h1 h2 hi hl]; exact hcur _
  | false =>
    by_cases hex : ∃ (k' : Nat) (e : Stp), k ≤ k' ∧ ent[k']? = some e ∧ e.n = h.ref n i
    · obtain ⟨k', e, a1, a2, a3⟩ := hex
      obtain ⟨j, _, _, hj⟩ := (R.new n i h1 h2 hi hl k' e a1 a2 a3).2
      rw [hj]; exact hcur j
    · obtain ⟨j, _, _, hj⟩ := (R.old n i h1 h2 hi hl (fun k' e a1 a2 a3 => hex ⟨k', e, a1, a2, a3⟩)).2
      rw [hj]
      have := hv j
      omega
end
end Go.Proofs.Ybulkbuhe
