/-
  The table's first add.
-/
import Derived.Test.YbulkbuheA5
namespace Go.Proofs.Ybulkbuhe
open Go.RowKit Fl
set_option linter.unusedSimpArgs false
attribute [local go_sem] run_store_float setCell_drewN alloc_drewN

theorem made55 : madeCells (Value.agg zcells).cells (1 * 36) = zcells := by kernel_rfl
theorem info25 : (Yba.prog.info? 25).map (fun i => (i.zero, i.size, i.bytes)) = some (some (.slice none 0 0), 1, 24) := by kernel_rfl

section
variable {ops : Array Oper} {o : Oper} {a : Act} {W : World} {K : Act → World → Prop} {Q : Exit → Act → World → Prop} {E : Prop}
theorem step_make25 (hgd : o.guard = none) (ho : o.op = .makeSlice 25 (.const (.int .i64 1)) (.const (.int .i64 1))) (h : K (a.put o.dst (.slice (some ⟨W.heap.size, 0, none⟩) 1 1)) (W.alloc (.cells za 55))) :
    if Region.wanted o (yielded ops a.tmps) = true then Oper.wp Yba.prog o a W K Q else E := by
  have hw : Region.wanted o (yielded ops a.tmps) = true := by simp [Region.wanted, hgd]
  rw [if_pos hw]
  obtain ⟨i, hi, hz, hs, hb⟩ := info55z
  have hr := run_make (P := Yba.prog) W 25 55 i _ Yba.underlying25 hi hz .i64 .i64 1 1 (by decide) (by decide) (by rw [hb]; decide) (by decide)
  rw [hs, show madeCells (Value.agg za).cells ((1 : Int).toNat * 36) = za from by rw [za_eq]; exact made55] at hr
  unfold Oper.wp execOp
  simp only [ho, Act.eval, Sem.run_bind, hr, Result.andThen_ok]
  exact h
end

def AddPost0 (base tb : Nat) (w : World) (e : Ending) (w' : World) : Prop :=
  ∃ cb nb cap, e = .returned (.int .i64 0) ∧ Tr w' base tb cb nb 1 cap (fun _ o => zc o) ∧ Chg (fun i => i = tb) w w' ∧ w.heap.size ≤ cb ∧ w.heap.size ≤ nb ∧ ∀ i, i ≠ 0 → i ≠ 2 → w'.cell? ⟨tb, i, none⟩ = w.cell? ⟨tb, i, none⟩

/-- The world ahead of the first append. -/
structure First (w : World) (base tb : Nat) (Wa : World) : Prop where
  chg : Chg (fun i => i = tb) w Wa
  t2 : Wa.cell? ⟨tb, 2, none⟩ = some (.int .i64 1)
  t0 : Wa.cell? ⟨tb, 0, none⟩ = some (.slice none 0 0)
  size : Wa.heap.size = w.heap.size
  soft : ∀ i, Wa.frozen? ⟨tb, i, none⟩ = false
  lt : tb < w.heap.size
  btb : base ≤ tb
  low : base ≤ w.heap.size
  rest : ∀ i, i ≠ 2 → Wa.cell? ⟨tb, i, none⟩ = w.cell? ⟨tb, i, none⟩

section
variable {w Wa : World} {base tb : Nat}
def chunkObj (w : World) : Obj := .cells #[.slice (some ⟨w.heap.size, 0, none⟩) 1 1] 25
theorem First.size1 (r : First w base tb Wa) : (Wa.alloc (.cells za 55)).heap.size = w.heap.size + 1 := by simp [r.size]
theorem First.size2 (r : First w base tb Wa) : ((Wa.alloc (.cells za 55)).alloc (chunkObj w)).heap.size = w.heap.size + 2 := by simp [r.size]
theorem First.chg2 (r : First w base tb Wa) : Chg (fun i => i = tb) w ((Wa.alloc (.cells za 55)).alloc (chunkObj w)) := (r.chg.trans (Chg.alloc _ _ _) (fun _ _ h => h)).trans (Chg.alloc _ _ _) (fun _ _ h => h)
theorem First.news (r : First w base tb Wa) : ∀ j u, [Value.slice (some ⟨w.heap.size, 0, none⟩) 1 1][j]? = some u → ((Wa.alloc (.cells za 55)).alloc (chunkObj w)).cell? ((⟨w.heap.size + 1, 0, none⟩ : Addr).add j) = some u := fun j u hj => by
  rw [show (⟨w.heap.size + 1, 0, none⟩ : Addr).add j = ⟨w.heap.size + 1, j, none⟩ by simp [Addr.add, eq_comm], ← r.size1]
  unfold chunkObj
  rw [World.cell?_alloc_new]
  simpa using hj
theorem First.far (r : First w base tb Wa) (i : Nat) : ((Wa.alloc (.cells za 55)).alloc (chunkObj w)).cell? ⟨tb, i, none⟩ = Wa.cell? ⟨tb, i, none⟩ := by
  have := r.lt
  rw [World.cell?_alloc_lt _ _ _ (by rw [r.size1]; show tb < _; omega), World.cell?_alloc_lt _ _ _ (by rw [r.size]; exact r.lt)]
theorem First.far1 (r : First w base tb Wa) (i : Nat) : (Wa.alloc (.cells za 55)).cell? ⟨tb, i, none⟩ = Wa.cell? ⟨tb, i, none⟩ := World.cell?_alloc_lt _ _ _ (by rw [r.size]; exact r.lt)
theorem First.farf (r : First w base tb Wa) (i : Nat) : ((Wa.alloc (.cells za 55)).alloc (chunkObj w)).frozen? ⟨tb, i, none⟩ = false := by
  unfold chunkObj
  rw [frozen?_alloc_cells, frozen?_alloc_cells, r.soft]
theorem First.aft (r : First w base tb Wa) {w1 : World} (hg : ((Wa.alloc (.cells za 55)).alloc (chunkObj w)).grownBy w1 none) : w1.cell? ⟨tb, 0, none⟩ = some (.slice none 0 0) ∧ w1.frozen? ⟨tb, 0, none⟩ = false := by
  have := r.lt
  have hn : tb < ((Wa.alloc (.cells za 55)).alloc (chunkObj w)).heap.size := by rw [r.size2]; omega
  rw [hg.cell_far ⟨tb, 0, none⟩ hn (by simp), hg.frozen_far ⟨tb, 0, none⟩ hn (by simp), r.far, r.farf]
  exact ⟨r.t0, rfl⟩
theorem First.done (r : First w base tb Wa) {g cap' : Nat} {w1 : World}
    (hown : w1.ownsRow base 25 1 (.slice (some ⟨g, 0, none⟩) (0 + 1) cap') (0 + 1) ([] ++ [Value.slice (some ⟨w.heap.size, 0, none⟩) 1 1])) (hg : ((Wa.alloc (.cells za 55)).alloc (chunkObj w)).grownBy w1 none) (hl : none = some g ∨ g = w.heap.size + 2) :
    AddPost0 base tb w (.returned (.int .i64 0)) (w1.setCell ⟨tb, 0, none⟩ (.slice (some ⟨g, 0, none⟩) 1 cap')) := by
  have hlt := r.lt
  have hlow := r.low
  have hge : g = w.heap.size + 2 := by rcases hl with e | e; cases e; exact e
  have k1 : Chg (fun _ => False) ((Wa.alloc (.cells za 55)).alloc (chunkObj w)) w1 := Chg.grown hg (fun k e => by cases e)
  have k2 : Chg (fun i => i = tb) w1 (w1.setCell ⟨tb, 0, none⟩ (.slice (some ⟨g, 0, none⟩) 1 cap')) := Chg.setCell w1 ⟨tb, 0, none⟩ _ rfl
  have hc1 : Chg (fun i => i = tb) w w1 := r.chg2.trans k1 (fun i _ e => e.elim)
  have s1 : tb < ((Wa.alloc (.cells za 55)).alloc (chunkObj w)).heap.size := by rw [r.size2]; omega
  have sg : g < w1.heap.size := World.block_lt_of_cell? w1 ⟨g, 0, none⟩ (hown.cellAt 0 (by simp))
  have hrow : ((Wa.alloc (.cells za 55)).alloc (chunkObj w)).ownsRow base 55 36 (.slice (some ⟨w.heap.size, 0, none⟩) 1 1) 1 (flat (fun _ o => zc o) 1) := by
    refine ⟨by rw [flat_len], .inr ⟨w.heap.size, 1, za, rfl, r.low, ?_, Nat.le_refl _, by unfold maxLen; omega, by rw [za_size], ?_⟩⟩
    · rw [Below.heap_alloc _ _ _ (by rw [r.size1]; omega)]
      rw [← r.size]
      exact Array.getElem?_push_size
    · rw [za_eq]; rfl
  have e1 : tb ≠ g := by omega
  have e2 : tb ≠ w.heap.size := by omega
  refine ⟨g, w.heap.size, 1, rfl, ⟨⟨cap', ?_⟩, ?_, ?_, ?_, e1, e2, by omega, r.btb, by omega, fun i => ?_, fun i => ?_, by omega⟩, hc1.trans k2 (fun _ _ h => h), by omega, Nat.le_refl _, fun i i0 i2 => by rw [World.cell?_setCell_other _ _ _ _ (by intro e; exact i0 (Addr.mk.inj e).2.1.symm), k1.cell (p := ⟨tb, i, none⟩) s1 id, r.far]; exact r.rest i i2⟩
  · exact World.cell?_setCell_same _ _ _ (r.aft hg).1
  · rw [World.cell?_setCell_other _ _ _ _ (by simp), k1.cell (p := ⟨tb, 2, none⟩) s1 id, r.far]; exact r.t2
  · rw [k2.cell (p := ⟨g, 0, none⟩) sg (fun e => e1 e.symm)]
    have := hown.cellAt 0 (by simp)
    simpa using this
  · exact k2.row (k1.row hrow (fun _ _ => id)) (fun k e => by cases e; exact fun e => e2 e.symm)
  · rw [World.frozen?_setCell, k1.frozen (p := ⟨tb, i, none⟩) s1 id, r.farf]
  · rw [World.frozen?_setCell]; exact hown.frozenAt i
end

set_option maxHeartbeats 2000000 in
set_option maxRecDepth 100000 in
theorem add_first (w : World) (base tb : Nat) (t0 : w.cell? ⟨tb, 0, none⟩ = some (.slice none 0 0)) (t2 : w.cell? ⟨tb, 2, none⟩ = some (.int .i64 0)) (st : ∀ i, w.frozen? ⟨tb, i, none⟩ = false) (hbt : base ≤ tb) (hb : base ≤ w.heap.size) :
    Calls Yba.prog 17 #[.pointer (some ⟨tb, 0, none⟩)] w (AddPost0 base tb w) := by
  have hlt : tb < w.heap.size := World.block_lt_of_cell? w ⟨tb, 2, none⟩ t2
  have ready : First w base tb (w.setCell ⟨tb, 2, none⟩ (.int .i64 1)) := by
    refine ⟨Chg.setCell w _ _ rfl, World.cell?_setCell_same _ _ _ t2, ?_, by simp, fun i => ?_, hlt, hbt, hb, fun i hi => World.cell?_setCell_other _ _ _ _ (by intro e; exact hi (Addr.mk.inj e).2.1.symm)⟩
    · rw [World.cell?_setCell_other _ _ _ _ (by simp)]; exact t0
    · rw [World.frozen?_setCell]; exact st i
  go_enter Yba.func17, Yba.ntmps17
  go_wp2_with fail
  go_loopw [] (fun wr => wr = w.setCell ⟨tb, 2, none⟩ (.int .i64 1)) (fun _ => 0)
  case atStart => rfl
  case round =>
    subst hrel
    have u0 := ready.t0
    go_wp2_with fail
    generalize hWa : (w.setCell ⟨tb, 2, none⟩ (.int .i64 1)) = Wa at ready ⊢
    clear hWa t0 t2 st u0
    refine wp_region_any (by kernel_rfl) ?_
    change wpAny _ _ _ _ _ _ _ (World.drew _)
    have ready : First w base tb Wa.drew := ⟨ready.chg.trans (Chg.drew _ _) (fun _ _ h => h), ready.t2, ready.t0, ready.size, ready.soft, ready.lt, ready.btb, ready.low, ready.rest⟩
    generalize hWa : Wa.drew = Wb at ready ⊢
    clear hWa
    have c0 := ready.t0
    have c1 := (ready.far1 0).trans c0
    have c2 := (ready.far 0).trans c0
    obtain ⟨i0, hi, hz, hsz, hby⟩ := info_parts info25
    refine wpAny_take (i := 0) (v := .pointer (some ⟨tb, 0, none⟩)) rfl (by kernel_rfl) (by kernel_rfl) (by kernel_rfl) (fun _ _ _ h => h) (Or.inl ⟨by rfl, by intro w; go_simp; try rfl⟩) ?_
    simp only [Act.put, List.setIfInBounds_toArray, List.set_cons_zero, List.set_cons_succ]
    refine wpAny_take (i := 1) (v := .pointer (some ⟨tb, 0, none⟩)) rfl (by kernel_rfl) (by kernel_rfl) (by kernel_rfl) (fun _ _ _ h => h) (Or.inl ⟨by rfl, by intro w; go_simp; try rfl⟩) ?_
    simp only [Act.put, List.setIfInBounds_toArray, List.set_cons_zero, List.set_cons_succ]
    refine wpAny_take (i := 2) (v := .pointer (some ⟨tb, 0, none⟩)) rfl (by kernel_rfl) (by kernel_rfl) (by kernel_rfl) (fun _ _ _ h => h) (Or.inl ⟨by rfl, by intro w; go_simp; try rfl⟩) ?_
    simp only [Act.put, List.setIfInBounds_toArray, List.set_cons_zero, List.set_cons_succ]
    refine wpAny_take (i := 3) (v := .pointer (some ⟨tb, 0, none⟩)) rfl (by kernel_rfl) (by kernel_rfl) (by kernel_rfl) (fun _ _ _ h => h) (Or.inl ⟨by rfl, by intro w; go_simp; try rfl⟩) ?_
    simp only [Act.put, List.setIfInBounds_toArray, List.set_cons_zero, List.set_cons_succ]
    refine wpAny_ready (rs := [4, 5]) (by kernel_rfl) (by simp) ?_
    refine AllReady.cons rfl (fun K hK => ?_) (AllReady.cons rfl (fun K hK => ?_) AllReady.nil)
    · skip
      go_simp
      refine hK _ _ ?_
      clear hK K
      refine wpAny_ready (rs := [5]) (by kernel_rfl) (by simp) ?_
      refine AllReady.cons rfl (fun K hK => ?_) AllReady.nil
      refine step_make25 rfl rfl (hK _ _ ?_)
      clear hK K
      simp only [Act.put, List.setIfInBounds_toArray, List.set_cons_zero, List.set_cons_succ]
      rw [ready.size]
      refine wpAny_ready (rs := [6]) (by kernel_rfl) (by simp) ?_
      refine AllReady.cons rfl (fun K hK => ?_) AllReady.nil
      go_simp
      refine hK _ _ ?_
      clear hK K
      rw [ready.size]
      change wpAny _ _ _ _ _ _ _ ((Wb.alloc (.cells za 55)).alloc (chunkObj w))
      refine wpAny_ready (rs := [7]) (by kernel_rfl) (by simp) ?_
      refine AllReady.cons rfl (fun K hK => ?_) AllReady.nil
      refine step_append_lies _ rfl (.tmp 71) (.tmp 73) 24 rfl base 25 i0 (.slice none 0 0) 1 24 Yba.underlying24 hi hz hsz hby rfl (by decide) _ 0 [] rfl (World.ownsRow_nil _ _ _ _) ⟨w.heap.size + 1, 0, none⟩ 1 1 [.slice (some ⟨w.heap.size, 0, none⟩) 1 1] rfl rfl ready.news (fun u hu => by rw [List.mem_singleton.1 hu]; rfl) (by decide) (by unfold maxLen; omega) (by omega) (by rw [ready.size2]; omega) (w.heap.size + 2) ready.size2 ?_
      intro g cap' w1 hown1 hgrow hlie hlt1
      refine hK _ _ ?_
      clear hK K
      simp only [Act.put, List.setIfInBounds_toArray, List.set_cons_zero, List.set_cons_succ]
      obtain ⟨q1, f1⟩ := ready.aft hgrow
      refine wpAny_take (i := 8) (v := .pointer (some ⟨tb, 0, none⟩)) rfl (by kernel_rfl) (by kernel_rfl) (by kernel_rfl) (fun _ _ _ h => h) (Or.inl ⟨by rfl, by intro w; go_simp; try rfl⟩) ?_
      simp only [Act.put, List.setIfInBounds_toArray, List.set_cons_zero, List.set_cons_succ]
      refine wpAny_take (i := 9) (v := .pointer (some ⟨tb, 0, none⟩)) rfl (by kernel_rfl) (by kernel_rfl) (by kernel_rfl) (fun _ _ _ h => h) (Or.inl ⟨by rfl, by intro w; go_simp; try rfl⟩) ?_
      simp only [Act.put, List.setIfInBounds_toArray, List.set_cons_zero, List.set_cons_succ]
      refine wpAny_ready (rs := [10]) (by kernel_rfl) (by simp) ?_
      refine AllReady.cons rfl (fun K hK => ?_) AllReady.nil
      go_simp
      refine hK _ _ ?_
      clear hK K
      refine wpAny_done (by kernel_rfl) ?_ _
      clear q1 f1 c0 c1 c2
      go_wp2_with fail
      go_ret
      exact ready.done hown1 hgrow hlie
    · skip
      refine step_make25 rfl rfl (hK _ _ ?_)
      clear hK K
      simp only [Act.put, List.setIfInBounds_toArray, List.set_cons_zero, List.set_cons_succ]
      rw [ready.size]
      refine wpAny_ready (rs := [4, 6]) (by kernel_rfl) (by simp) ?_
      refine AllReady.cons rfl (fun K hK => ?_) (AllReady.cons rfl (fun K hK => ?_) AllReady.nil)
      · skip
        go_simp
        refine hK _ _ ?_
        clear hK K
        refine wpAny_ready (rs := [6]) (by kernel_rfl) (by simp) ?_
        refine AllReady.cons rfl (fun K hK => ?_) AllReady.nil
        go_simp
        refine hK _ _ ?_
        clear hK K
        rw [ready.size]
        change wpAny _ _ _ _ _ _ _ ((Wb.alloc (.cells za 55)).alloc (chunkObj w))
        refine wpAny_ready (rs := [7]) (by kernel_rfl) (by simp) ?_
        refine AllReady.cons rfl (fun K hK => ?_) AllReady.nil
        refine step_append_lies _ rfl (.tmp 71) (.tmp 73) 24 rfl base 25 i0 (.slice none 0 0) 1 24 Yba.underlying24 hi hz hsz hby rfl (by decide) _ 0 [] rfl (World.ownsRow_nil _ _ _ _) ⟨w.heap.size + 1, 0, none⟩ 1 1 [.slice (some ⟨w.heap.size, 0, none⟩) 1 1] rfl rfl ready.news (fun u hu => by rw [List.mem_singleton.1 hu]; rfl) (by decide) (by unfold maxLen; omega) (by omega) (by rw [ready.size2]; omega) (w.heap.size + 2) ready.size2 ?_
        intro g cap' w1 hown1 hgrow hlie hlt1
        refine hK _ _ ?_
        clear hK K
        simp only [Act.put, List.setIfInBounds_toArray, List.set_cons_zero, List.set_cons_succ]
        obtain ⟨q1, f1⟩ := ready.aft hgrow
        refine wpAny_take (i := 8) (v := .pointer (some ⟨tb, 0, none⟩)) rfl (by kernel_rfl) (by kernel_rfl) (by kernel_rfl) (fun _ _ _ h => h) (Or.inl ⟨by rfl, by intro w; go_simp; try rfl⟩) ?_
        simp only [Act.put, List.setIfInBounds_toArray, List.set_cons_zero, List.set_cons_succ]
        refine wpAny_take (i := 9) (v := .pointer (some ⟨tb, 0, none⟩)) rfl (by kernel_rfl) (by kernel_rfl) (by kernel_rfl) (fun _ _ _ h => h) (Or.inl ⟨by rfl, by intro w; go_simp; try rfl⟩) ?_
        simp only [Act.put, List.setIfInBounds_toArray, List.set_cons_zero, List.set_cons_succ]
        refine wpAny_ready (rs := [10]) (by kernel_rfl) (by simp) ?_
        refine AllReady.cons rfl (fun K hK => ?_) AllReady.nil
        go_simp
        refine hK _ _ ?_
        clear hK K
        refine wpAny_done (by kernel_rfl) ?_ _
        clear q1 f1 c0 c1 c2
        go_wp2_with fail
        go_ret
        exact ready.done hown1 hgrow hlie
      · skip
        go_simp
        refine hK _ _ ?_
        clear hK K
        rw [ready.size]
        change wpAny _ _ _ _ _ _ _ ((Wb.alloc (.cells za 55)).alloc (chunkObj w))
        refine wpAny_ready (rs := [4]) (by kernel_rfl) (by simp) ?_
        refine AllReady.cons rfl (fun K hK => ?_) AllReady.nil
        go_simp
        refine hK _ _ ?_
        clear hK K
        refine wpAny_ready (rs := [7]) (by kernel_rfl) (by simp) ?_
        refine AllReady.cons rfl (fun K hK => ?_) AllReady.nil
        refine step_append_lies _ rfl (.tmp 71) (.tmp 73) 24 rfl base 25 i0 (.slice none 0 0) 1 24 Yba.underlying24 hi hz hsz hby rfl (by decide) _ 0 [] rfl (World.ownsRow_nil _ _ _ _) ⟨w.heap.size + 1, 0, none⟩ 1 1 [.slice (some ⟨w.heap.size, 0, none⟩) 1 1] rfl rfl ready.news (fun u hu => by rw [List.mem_singleton.1 hu]; rfl) (by decide) (by unfold maxLen; omega) (by omega) (by rw [ready.size2]; omega) (w.heap.size + 2) ready.size2 ?_
        intro g cap' w1 hown1 hgrow hlie hlt1
        refine hK _ _ ?_
        clear hK K
        simp only [Act.put, List.setIfInBounds_toArray, List.set_cons_zero, List.set_cons_succ]
        obtain ⟨q1, f1⟩ := ready.aft hgrow
        refine wpAny_take (i := 8) (v := .pointer (some ⟨tb, 0, none⟩)) rfl (by kernel_rfl) (by kernel_rfl) (by kernel_rfl) (fun _ _ _ h => h) (Or.inl ⟨by rfl, by intro w; go_simp; try rfl⟩) ?_
        simp only [Act.put, List.setIfInBounds_toArray, List.set_cons_zero, List.set_cons_succ]
        refine wpAny_take (i := 9) (v := .pointer (some ⟨tb, 0, none⟩)) rfl (by kernel_rfl) (by kernel_rfl) (by kernel_rfl) (fun _ _ _ h => h) (Or.inl ⟨by rfl, by intro w; go_simp; try rfl⟩) ?_
        simp only [Act.put, List.setIfInBounds_toArray, List.set_cons_zero, List.set_cons_succ]
        refine wpAny_ready (rs := [10]) (by kernel_rfl) (by simp) ?_
        refine AllReady.cons rfl (fun K hK => ?_) AllReady.nil
        go_simp
        refine hK _ _ ?_
        clear hK K
        refine wpAny_done (by kernel_rfl) ?_ _
        clear q1 f1 c0 c1 c2
        go_wp2_with fail
        go_ret
        exact ready.done hown1 hgrow hlie
end Go.Proofs.Ybulkbuhe
