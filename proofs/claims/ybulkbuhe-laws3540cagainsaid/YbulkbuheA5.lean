/-
  The walk of the table's add.
-/
import Derived.Test.YbulkbuheA4
import Derived.Deep.RegionLaw
import Derived.Deep.MidRow
import Derived.Great.BuildSlice
namespace Go.Proofs.Ybulkbuhe
open Go.RowKit Fl
set_option linter.unusedSimpArgs false
attribute [local go_sem] run_store_float setCell_drewN alloc_drewN

/-- A new node's cells. -/
def zcells : Array Value := #[.int .i32 0, .bool false, .int .u8 0, .int .i32 0, .int .i32 0, .int .i32 0, .int .i32 0, .int .i32 0, .int .i32 0, .int .i32 0, .int .i32 0,
  .float .f64 0, .float .f64 0, .float .f64 0, .float .f64 0, .float .f64 0, .float .f64 0, .float .f64 0, .float .f64 0,
  .int .i32 0, .int .i32 0, .int .i32 0, .int .i32 0, .int .i32 0, .int .i32 0, .int .i32 0, .int .i32 0, .float .f64 0,
  .int .i32 0, .int .i32 0, .int .i32 0, .int .i32 0, .int .i32 0, .int .i32 0, .int .i32 0, .int .i32 0]
def zc (o : Nat) : Value := zcells.getD o undef
def grow (M : Nat → Nat → Value) (N : Nat) : Nat → Nat → Value := fun n o => if n = N then zc o else M n o
theorem zcells_size : zcells.size = 36 := rfl
theorem zcells_list : zcells.toList = (List.range 36).map zc := by rfl
theorem flat_grow (M : Nat → Nat → Value) (N : Nat) : flat M N ++ zcells.toList = flat (grow M N) (N + 1) := by
  rw [zcells_list]
  unfold flat
  rw [show (N + 1) * 36 = N * 36 + 36 by omega, List.range_add, List.map_append, List.map_map]
  congr 1
  · apply List.map_congr_left
    intro i hi
    have := List.mem_range.1 hi
    unfold grow
    rw [if_neg (by omega)]
  · apply List.map_congr_left
    intro i hi
    have := List.mem_range.1 hi
    simp only [Function.comp, grow]
    rw [if_pos (by omega), show (N * 36 + i) % 36 = i by omega]

theorem info55 : (Yba.prog.info? 55).map (fun i => (i.zero, i.size, i.bytes)) = some (some (.agg zcells), 36, 176) := by kernel_rfl
theorem info_parts {t : TypeId} {z : Value} {s b : Nat} (h : (Yba.prog.info? t).map (fun i => (i.zero, i.size, i.bytes)) = some (some z, s, b)) : ∃ i, Yba.prog.info? t = some i ∧ i.zero = some z ∧ i.size = s ∧ i.bytes = b := by
  cases hi : Yba.prog.info? t with
  | none => rw [hi] at h; cases h
  | some i =>
    rw [hi] at h
    simp only [Option.map_some, Option.some.injEq, Prod.mk.injEq] at h
    exact ⟨i, rfl, h.1, h.2.1, h.2.2⟩

def AddPost (base tb cb N : Nat) (nb : Nat) (M : Nat → Nat → Value) (w : World) (e : Ending) (w' : World) : Prop :=
  ∃ nb' cap', e = .returned (.int .i64 N) ∧ Tr w' base tb cb nb' (N + 1) cap' (grow M N) ∧ Chg (fun i => i = tb ∨ i = cb ∨ i = nb) w w' ∧ (nb' = nb ∨ w.heap.size ≤ nb') ∧ ∀ i, i ≠ 2 → w'.cell? ⟨tb, i, none⟩ = w.cell? ⟨tb, i, none⟩

/-- The cells of a new node under a name of their own. -/
@[irreducible] def za : Array Value := zcells
theorem za_eq : za = zcells := by unfold za; rfl
theorem za_size : za.size = 36 := by rw [za_eq]; rfl
theorem za_one : ∀ u ∈ za.toList, u.oneCell' = true := fun u hu => by
  rw [za_eq] at hu
  have : (zcells.toList.all fun v => v.oneCell') = true := by decide
  exact List.all_eq_true.1 this u hu
theorem info55z : ∃ i, Yba.prog.info? 55 = some i ∧ i.zero = some (.agg za) ∧ i.size = 36 ∧ i.bytes = 176 := by
  obtain ⟨i, h1, h2, h3, h4⟩ := info_parts info55
  exact ⟨i, h1, by rw [h2, za_eq], h3, h4⟩
theorem fill55 : Instr.fill (fun i => some (i * 36, 36)) ((Array.range (1 * 36)).map ((Value.agg zcells).cells[· % (Value.agg zcells).cells.size]!)) [(0, Value.agg zcells)] = some zcells := by kernel_rfl

section
variable {ops : Array Oper} {o : Oper} {a : Act} {W : World} {K : Act → World → Prop} {Q : Exit → Act → World → Prop} {E : Prop}
theorem step_load55 (hgd : o.guard = none) (x : Operand) (ho : o.op = .load 55 x) (b : Nat) (hx : a.eval x = .pointer (some ⟨b, 0, none⟩)) (hc : W.rangeAt b 0 za.toList) (h : K (a.put o.dst (.agg za)) W) :
    if Region.wanted o (yielded ops a.tmps) = true then Oper.wp Yba.prog o a W K Q else E := by
  have hw : Region.wanted o (yielded ops a.tmps) = true := by simp [Region.wanted, hgd]
  rw [if_pos hw]
  obtain ⟨i, hi, _, hs, _⟩ := info55z
  refine wp_load_mid 55 x ho b 0 hx za.toList _ hc Yba.underlying55 rfl ?_ ?_
  · rw [hi]; simp [hs, za_size]
  · simpa using h
theorem step_build25 (hgd : o.guard = none) (x : Operand) (ho : o.op = .buildSlice 25 1 #[(0, x)]) (hx : a.eval x = .agg za) (h : K (a.put o.dst (.slice (some ⟨W.heap.size, 0, none⟩) 1 1)) (W.alloc (.cells za 55))) :
    if Region.wanted o (yielded ops a.tmps) = true then Oper.wp Yba.prog o a W K Q else E := by
  have hw : Region.wanted o (yielded ops a.tmps) = true := by simp [Region.wanted, hgd]
  rw [if_pos hw]
  obtain ⟨i, hi, hz, hs, _⟩ := info55z
  refine wp_buildSlice 25 55 1 #[(0, x)] ho za i _ Yba.underlying25 hi hz (by rw [hs]; decide) (by rw [hs]; decide) ?_ h
  rw [hs]
  simp only [List.map_toArray, List.map_cons, List.map_nil, hx, za_eq]
  exact fill55
end


/-- The world ahead of the append. -/
structure Ready (w : World) (base tb cb nb N cap : Nat) (M : Nat → Nat → Value) (Wa : World) : Prop where
  chg : Chg (fun i => i = tb) w Wa
  t2 : Wa.cell? ⟨tb, 2, none⟩ = some (.int .i64 ((N : Int) + 1))
  t0 : ∃ c, Wa.cell? ⟨tb, 0, none⟩ = some (.slice (some ⟨cb, 0, none⟩) 1 c)
  size : Wa.heap.size = w.heap.size + 1
  zr : Wa.rangeAt w.heap.size 0 za.toList
  soft : ∀ x, Wa.frozen? x = w.frozen? x
  rest : ∀ i, i ≠ 2 → Wa.cell? ⟨tb, i, none⟩ = w.cell? ⟨tb, i, none⟩

section
variable {w Wa : World} {base tb cb nb N cap : Nat} {M : Nat → Nat → Value}
theorem Ready.c0 (r : Ready w base tb cb nb N cap M Wa) (h : Tr w base tb cb nb N cap M) : Wa.cell? ⟨cb, 0, none⟩ = some (.slice (some ⟨nb, 0, none⟩) N cap) :=
  (r.chg.cell (p := ⟨cb, 0, none⟩) h.ltc (fun e => h.tbc e.symm)).trans h.c0
theorem Ready.f0 (r : Ready w base tb cb nb N cap M Wa) (h : Tr w base tb cb nb N cap M) : Wa.frozen? ⟨cb, 0, none⟩ = false :=
  (r.chg.frozen (p := ⟨cb, 0, none⟩) h.ltc (fun e => h.tbc e.symm)).trans (h.softc 0)
theorem Ready.drew (r : Ready w base tb cb nb N cap M Wa) : Ready w base tb cb nb N cap M Wa.drew := ⟨r.chg.trans (Chg.drew _ _) (fun _ _ h => h), r.t2, r.t0, r.size, r.zr, r.soft, r.rest⟩
theorem Ready.size1 (r : Ready w base tb cb nb N cap M Wa) : Wa.heap.size = w.heap.size + 1 := r.size
theorem Ready.size2 (r : Ready w base tb cb nb N cap M Wa) : (Wa.alloc (.cells za 55)).heap.size = w.heap.size + 2 := by simp [r.size]
theorem Ready.chg2 (r : Ready w base tb cb nb N cap M Wa) : Chg (fun i => i = tb) w (Wa.alloc (.cells za 55)) := r.chg.trans (Chg.alloc _ _ _) (fun _ _ h => h)
theorem Ready.own (r : Ready w base tb cb nb N cap M Wa) (h : Tr w base tb cb nb N cap M) : (Wa.alloc (.cells za 55)).ownsRow base 55 36 (.slice (some ⟨nb, 0, none⟩) N cap) N (flat M N) :=
  r.chg2.row h.row (fun k e => by cases e; exact fun e => h.tbn e.symm)
theorem Ready.news (r : Ready w base tb cb nb N cap M Wa) : ∀ j u, za.toList[j]? = some u → (Wa.alloc (.cells za 55)).cell? ((⟨w.heap.size + 1, 0, none⟩ : Addr).add j) = some u := fun j u hj => by
  rw [show (⟨w.heap.size + 1, 0, none⟩ : Addr).add j = ⟨w.heap.size + 1, j, none⟩ by simp [Addr.add, eq_comm], ← r.size, World.cell?_alloc_new]
  simpa using hj
theorem Ready.low (r : Ready w base tb cb nb N cap M Wa) (hb : base ≤ w.heap.size) : base ≤ (Wa.alloc (.cells za 55)).heap.size := by rw [r.size2]; omega
theorem Ready.aft (r : Ready w base tb cb nb N cap M Wa) (h : Tr w base tb cb nb N cap M) {w1 : World} (hg : (Wa.alloc (.cells za 55)).grownBy w1 (some nb)) : w1.cell? ⟨cb, 0, none⟩ = some (.slice (some ⟨nb, 0, none⟩) N cap) ∧ w1.frozen? ⟨cb, 0, none⟩ = false := by
  have hn : cb < (Wa.alloc (.cells za 55)).heap.size := by rw [r.size2]; have := h.ltc; omega
  have hne : some cb ≠ some nb := fun e => h.cbn (Option.some.inj e)
  rw [hg.cell_far ⟨cb, 0, none⟩ hn hne, hg.frozen_far ⟨cb, 0, none⟩ hn hne, r.chg2.cell (p := ⟨cb, 0, none⟩) h.ltc (fun e => h.tbc e.symm), r.chg2.frozen (p := ⟨cb, 0, none⟩) h.ltc (fun e => h.tbc e.symm)]
  exact ⟨h.c0, h.softc 0⟩
theorem za_flat (M : Nat → Nat → Value) (N : Nat) : flat M N ++ za.toList = flat (grow M N) (N + 1) := by rw [za_eq, flat_grow]
theorem Ready.done (r : Ready w base tb cb nb N cap M Wa) (h : Tr w base tb cb nb N cap M) (hN : N < 900) {g cap' : Nat} {w1 : World}
    (hown : w1.ownsRow base 55 36 (.slice (some ⟨g, 0, none⟩) (N + 1) cap') (N + 1) (flat M N ++ za.toList)) (hg : (Wa.alloc (.cells za 55)).grownBy w1 (some nb)) (hl : some nb = some g ∨ g = w.heap.size + 2) :
    AddPost base tb cb N nb M w (.returned (.int .i64 N)) (w1.setCell ⟨cb, 0, none⟩ (.slice (some ⟨g, 0, none⟩) (N + 1) cap')) := by
  have k1 : Chg (fun i => i = nb) (Wa.alloc (.cells za 55)) w1 := Chg.grown hg (fun k e => (Option.some.inj e).symm)
  have hc1 : Chg (fun i => i = tb ∨ i = cb ∨ i = nb) w w1 := (r.chg2.mono (fun _ _ e => .inl e)).trans k1 (fun i _ e => .inr (.inr e))
  have hc2 : Chg (fun i => i = tb ∨ i = cb ∨ i = nb) w (w1.setCell ⟨cb, 0, none⟩ (.slice (some ⟨g, 0, none⟩) (N + 1) cap')) := hc1.trans (Chg.setCell (S := fun i => i = cb) w1 ⟨cb, 0, none⟩ _ rfl) (fun i _ e => .inr (.inl e))
  have k2 : Chg (fun i => i = cb) w1 (w1.setCell ⟨cb, 0, none⟩ (.slice (some ⟨g, 0, none⟩) (N + 1) cap')) := Chg.setCell w1 ⟨cb, 0, none⟩ _ rfl
  have ltt := h.ltt
  have ltc := h.ltc
  have ltn := h.ltn
  have gt : g ≠ tb := by rcases hl with e | e; exact fun e' => h.tbn (e'.symm.trans (Option.some.inj e).symm); omega
  have gc : g ≠ cb := by rcases hl with e | e; exact fun e' => h.cbn (e'.symm.trans (Option.some.inj e).symm); omega
  have s1 : tb < (Wa.alloc (.cells za 55)).heap.size := by rw [r.size2]; omega
  have s2 : tb < w1.heap.size := Nat.lt_of_lt_of_le s1 k1.size
  have q2 : (Wa.alloc (.cells za 55)).cell? ⟨tb, 2, none⟩ = some (.int .i64 ((N : Int) + 1)) := by rw [World.cell?_alloc_lt _ _ _ (by rw [r.size]; show tb < _; omega)]; exact r.t2
  obtain ⟨c, hc0⟩ := r.t0
  have q0 : (Wa.alloc (.cells za 55)).cell? ⟨tb, 0, none⟩ = some (.slice (some ⟨cb, 0, none⟩) 1 c) := by rw [World.cell?_alloc_lt _ _ _ (by rw [r.size]; show tb < _; omega)]; exact hc0
  have ca := (r.aft h hg).1
  refine ⟨g, cap', rfl, ⟨⟨c, ?_⟩, ?_, ?_, ?_, h.tbc, fun e => gt e.symm, fun e => gc e.symm, h.btb, h.bcb, fun i => ?_, fun i => ?_, by omega⟩, hc2, ?_, fun i hi => ?_⟩
  · rw [k2.cell (p := ⟨tb, 0, none⟩) s2 h.tbc, k1.cell (p := ⟨tb, 0, none⟩) s1 h.tbn]; exact q0
  · rw [k2.cell (p := ⟨tb, 2, none⟩) s2 h.tbc, k1.cell (p := ⟨tb, 2, none⟩) s1 h.tbn, q2]; rfl
  · exact World.cell?_setCell_same _ _ _ ca
  · rw [← za_flat]; exact k2.row hown (fun k e => by cases e; exact gc)
  · rw [k2.frozen (p := ⟨tb, i, none⟩) s2 h.tbc, k1.frozen (p := ⟨tb, i, none⟩) s1 h.tbn]
    rw [frozen?_alloc_cells, r.soft]
    exact h.softt i
  · rw [World.frozen?_setCell, k1.frozen (p := ⟨cb, i, none⟩) (by rw [r.size2]; show cb < _; omega) h.cbn, frozen?_alloc_cells, r.soft]
    exact h.softc i
  · rcases hl with e | e
    · exact .inl (Option.some.inj e).symm
    · exact .inr (by omega)
  · rw [k2.cell (p := ⟨tb, i, none⟩) s2 h.tbc, k1.cell (p := ⟨tb, i, none⟩) s1 h.tbn, World.cell?_alloc_lt _ _ _ (by rw [r.size]; show tb < _; omega)]; exact r.rest i hi
end

set_option maxHeartbeats 2000000 in
set_option maxRecDepth 100000 in
theorem add_walk (w : World) (base tb cb nb N cap : Nat) (M : Nat → Nat → Value) (h : Tr w base tb cb nb N cap M) (hN : N < 900) (hb : base ≤ w.heap.size) :
    Calls Yba.prog 17 #[.pointer (some ⟨tb, 0, none⟩)] w (AddPost base tb cb N nb M w) := by
  obtain ⟨c, t0⟩ := h.t0
  have t2 := h.t2
  have c0 := h.c0
  have st := h.softt
  have sc := h.softc
  have hltt := h.ltt
  have hltc := h.ltc
  have ne : (⟨tb, 2, none⟩ : Addr) ≠ ⟨cb, 0, none⟩ := fun e => h.tbc (Addr.mk.inj e).1
  have hq : (N : Int) / 1024 = 0 := by omega
  have ha : bits BinOp.and IntKind.i64 (N : Int) 1023 = (N : Int) := by rw [and_1023]; omega
  have ready : Ready w base tb cb nb N cap M ((w.setCell ⟨tb, 2, none⟩ (.int .i64 ((N : Int) + 1))).alloc (.cells za 55)) := by
    have k1 : Chg (fun i => i = tb) w (w.setCell ⟨tb, 2, none⟩ (.int .i64 ((N : Int) + 1))) := Chg.setCell w _ _ rfl
    have e1 : (w.setCell ⟨tb, 2, none⟩ (.int .i64 ((N : Int) + 1))).heap.size = w.heap.size := by simp
    have hch := k1.trans (Chg.alloc (fun i => i = tb) _ (.cells za 55)) (fun _ _ h => h)
    have u2 : ((w.setCell ⟨tb, 2, none⟩ (.int .i64 ((N : Int) + 1))).alloc (.cells za 55)).cell? ⟨tb, 2, none⟩ = some (.int .i64 ((N : Int) + 1)) := by
      rw [World.cell?_alloc_lt _ _ _ (by rw [e1]; exact hltt)]
      exact World.cell?_setCell_same _ _ _ t2
    refine ⟨hch, u2, ?_, by simp, ?_, fun x => by rw [frozen?_alloc_cells, World.frozen?_setCell], fun i hi => by rw [World.cell?_alloc_lt _ _ _ (by rw [e1]; exact hltt), World.cell?_setCell_other _ _ _ _ (by intro e; exact hi (Addr.mk.inj e).2.1.symm)]⟩
    · refine ⟨c, ?_⟩
      rw [World.cell?_alloc_lt _ _ _ (by rw [e1]; exact hltt), World.cell?_setCell_other _ _ _ _ (by simp)]
      exact t0
    · intro j v hv
      rw [Nat.zero_add, ← e1, World.cell?_alloc_new]
      simpa using hv
  go_enter Yba.func17, Yba.ntmps17
  go_wp2_with (simp only [hq, ha])
  rw [show (Obj.cells #[.int .i32 0, .bool false, .int .u8 0, .int .i32 0, .int .i32 0, .int .i32 0, .int .i32 0, .int .i32 0, .int .i32 0, .int .i32 0, .int .i32 0, .float .f64 0, .float .f64 0, .float .f64 0, .float .f64 0, .float .f64 0, .float .f64 0, .float .f64 0, .float .f64 0, .int .i32 0, .int .i32 0, .int .i32 0, .int .i32 0, .int .i32 0, .int .i32 0, .int .i32 0, .int .i32 0, .float .f64 0, .int .i32 0, .int .i32 0, .int .i32 0, .int .i32 0, .int .i32 0, .int .i32 0, .int .i32 0, .int .i32 0] 55) = .cells za 55 from by rw [za_eq]; rfl]
  generalize hWa : ((w.setCell ⟨tb, 2, none⟩ (.int .i64 ((N : Int) + 1))).alloc (.cells za 55)) = Wa at ready ⊢
  clear hWa t0 t2 c0 st sc ne hq ha
  refine wp_region_any (by kernel_rfl) ?_
  change wpAny _ _ _ _ _ _ _ (World.drew _)
  have ready := ready.drew
  generalize hWa : Wa.drew = Wb at ready ⊢
  clear hWa
  have c0 := ready.c0 h
  have f0 := ready.f0 h
  have c0' : (Wb.alloc (.cells za 55)).cell? ⟨cb, 0, none⟩ = some (.slice (some ⟨nb, 0, none⟩) N cap) := by rw [World.cell?_alloc_lt _ _ _ (by rw [ready.size]; show cb < _; omega)]; exact c0
  refine wpAny_take (i := 0) (v := .pointer (some ⟨cb, 0, none⟩)) rfl (by kernel_rfl) (by kernel_rfl) (by kernel_rfl) (fun _ _ _ h => h) (Or.inl ⟨by rfl, by intro w; go_simp; try rfl⟩) ?_
  simp only [Act.put, List.setIfInBounds_toArray, List.set_cons_zero, List.set_cons_succ]
  refine wpAny_take (i := 1) (v := .pointer (some ⟨cb, 0, none⟩)) rfl (by kernel_rfl) (by kernel_rfl) (by kernel_rfl) (fun _ _ _ h => h) (Or.inl ⟨by rfl, by intro w; go_simp; try rfl⟩) ?_
  simp only [Act.put, List.setIfInBounds_toArray, List.set_cons_zero, List.set_cons_succ]
  refine wpAny_take (i := 2) (v := .pointer (some ⟨cb, 0, none⟩)) rfl (by kernel_rfl) (by kernel_rfl) (by kernel_rfl) (fun _ _ _ h => h) (Or.inl ⟨by rfl, by intro w; go_simp; try rfl⟩) ?_
  simp only [Act.put, List.setIfInBounds_toArray, List.set_cons_zero, List.set_cons_succ]
  obtain ⟨i0, hi, hz, hsz, hby⟩ := info55z
  refine wpAny_ready (rs := [3, 4]) (by kernel_rfl) (by simp) ?_
  refine AllReady.cons rfl (fun K hK => ?_) (AllReady.cons rfl (fun K hK => ?_) AllReady.nil)
  · skip
    go_simp
    refine hK _ _ ?_
    clear hK K
    refine wpAny_ready (rs := [4]) (by kernel_rfl) (by simp) ?_
    refine AllReady.cons rfl (fun K hK => ?_) AllReady.nil
    refine step_load55 rfl _ rfl w.heap.size rfl (Ready.zr ready) (hK _ _ ?_)
    clear hK K
    simp only [Act.put, List.setIfInBounds_toArray, List.set_cons_zero, List.set_cons_succ]
    refine wpAny_ready (rs := [5]) (by kernel_rfl) (by simp) ?_
    refine AllReady.cons rfl (fun K hK => ?_) AllReady.nil
    refine step_build25 rfl _ rfl rfl (hK _ _ ?_)
    clear hK K
    simp only [Act.put, List.setIfInBounds_toArray, List.set_cons_zero, List.set_cons_succ]
    rw [ready.size]
    refine wpAny_ready (rs := [6]) (by kernel_rfl) (by simp) ?_
    refine AllReady.cons rfl (fun K hK => ?_) AllReady.nil
    refine step_append_lies _ rfl (.tmp 43) (.tmp 45) 25 rfl base 55 i0 (.agg za) 36 176 Yba.underlying25 hi hz hsz hby za_size (by decide) _ N (flat M N) rfl (Ready.own ready h) ⟨w.heap.size + 1, 0, none⟩ 1 1 za.toList rfl (by rw [Array.length_toList, za_size]) (Ready.news ready) za_one (by decide) (by unfold maxLen; omega) (by omega) (Ready.low ready hb) (w.heap.size + 2) (Ready.size2 ready) ?_
    intro g cap' w1 hown1 hgrow hlie hlt1
    refine hK _ _ ?_
    clear hK K
    simp only [Act.put, List.setIfInBounds_toArray, List.set_cons_zero, List.set_cons_succ]
    obtain ⟨c1, f1⟩ := Ready.aft ready h hgrow
    refine wpAny_take (i := 7) (v := .pointer (some ⟨cb, 0, none⟩)) rfl (by kernel_rfl) (by kernel_rfl) (by kernel_rfl) (fun _ _ _ h => h) (Or.inl ⟨by rfl, by intro w; go_simp; try rfl⟩) ?_
    simp only [Act.put, List.setIfInBounds_toArray, List.set_cons_zero, List.set_cons_succ]
    refine wpAny_ready (rs := [8]) (by kernel_rfl) (by simp) ?_
    refine AllReady.cons rfl (fun K hK => ?_) AllReady.nil
    go_simp
    refine hK _ _ ?_
    clear hK K
    refine wpAny_done (by kernel_rfl) ?_ _
    clear c1 f1 c0 f0 c0'
    go_wp2_with fail
    go_ret
    exact ready.done h hN hown1 hgrow hlie
  · skip
    refine step_load55 rfl _ rfl w.heap.size rfl (Ready.zr ready) (hK _ _ ?_)
    clear hK K
    simp only [Act.put, List.setIfInBounds_toArray, List.set_cons_zero, List.set_cons_succ]
    refine wpAny_ready (rs := [3, 5]) (by kernel_rfl) (by simp) ?_
    refine AllReady.cons rfl (fun K hK => ?_) (AllReady.cons rfl (fun K hK => ?_) AllReady.nil)
    · skip
      go_simp
      refine hK _ _ ?_
      clear hK K
      refine wpAny_ready (rs := [5]) (by kernel_rfl) (by simp) ?_
      refine AllReady.cons rfl (fun K hK => ?_) AllReady.nil
      refine step_build25 rfl _ rfl rfl (hK _ _ ?_)
      clear hK K
      simp only [Act.put, List.setIfInBounds_toArray, List.set_cons_zero, List.set_cons_succ]
      rw [ready.size]
      refine wpAny_ready (rs := [6]) (by kernel_rfl) (by simp) ?_
      refine AllReady.cons rfl (fun K hK => ?_) AllReady.nil
      refine step_append_lies _ rfl (.tmp 43) (.tmp 45) 25 rfl base 55 i0 (.agg za) 36 176 Yba.underlying25 hi hz hsz hby za_size (by decide) _ N (flat M N) rfl (Ready.own ready h) ⟨w.heap.size + 1, 0, none⟩ 1 1 za.toList rfl (by rw [Array.length_toList, za_size]) (Ready.news ready) za_one (by decide) (by unfold maxLen; omega) (by omega) (Ready.low ready hb) (w.heap.size + 2) (Ready.size2 ready) ?_
      intro g cap' w1 hown1 hgrow hlie hlt1
      refine hK _ _ ?_
      clear hK K
      simp only [Act.put, List.setIfInBounds_toArray, List.set_cons_zero, List.set_cons_succ]
      obtain ⟨c1, f1⟩ := Ready.aft ready h hgrow
      refine wpAny_take (i := 7) (v := .pointer (some ⟨cb, 0, none⟩)) rfl (by kernel_rfl) (by kernel_rfl) (by kernel_rfl) (fun _ _ _ h => h) (Or.inl ⟨by rfl, by intro w; go_simp; try rfl⟩) ?_
      simp only [Act.put, List.setIfInBounds_toArray, List.set_cons_zero, List.set_cons_succ]
      refine wpAny_ready (rs := [8]) (by kernel_rfl) (by simp) ?_
      refine AllReady.cons rfl (fun K hK => ?_) AllReady.nil
      go_simp
      refine hK _ _ ?_
      clear hK K
      refine wpAny_done (by kernel_rfl) ?_ _
      clear c1 f1 c0 f0 c0'
      go_wp2_with fail
      go_ret
      exact ready.done h hN hown1 hgrow hlie
    · skip
      refine step_build25 rfl _ rfl rfl (hK _ _ ?_)
      clear hK K
      simp only [Act.put, List.setIfInBounds_toArray, List.set_cons_zero, List.set_cons_succ]
      rw [ready.size]
      refine wpAny_ready (rs := [3]) (by kernel_rfl) (by simp) ?_
      refine AllReady.cons rfl (fun K hK => ?_) AllReady.nil
      go_simp
      refine hK _ _ ?_
      clear hK K
      refine wpAny_ready (rs := [6]) (by kernel_rfl) (by simp) ?_
      refine AllReady.cons rfl (fun K hK => ?_) AllReady.nil
      refine step_append_lies _ rfl (.tmp 43) (.tmp 45) 25 rfl base 55 i0 (.agg za) 36 176 Yba.underlying25 hi hz hsz hby za_size (by decide) _ N (flat M N) rfl (Ready.own ready h) ⟨w.heap.size + 1, 0, none⟩ 1 1 za.toList rfl (by rw [Array.length_toList, za_size]) (Ready.news ready) za_one (by decide) (by unfold maxLen; omega) (by omega) (Ready.low ready hb) (w.heap.size + 2) (Ready.size2 ready) ?_
      intro g cap' w1 hown1 hgrow hlie hlt1
      refine hK _ _ ?_
      clear hK K
      simp only [Act.put, List.setIfInBounds_toArray, List.set_cons_zero, List.set_cons_succ]
      obtain ⟨c1, f1⟩ := Ready.aft ready h hgrow
      refine wpAny_take (i := 7) (v := .pointer (some ⟨cb, 0, none⟩)) rfl (by kernel_rfl) (by kernel_rfl) (by kernel_rfl) (fun _ _ _ h => h) (Or.inl ⟨by rfl, by intro w; go_simp; try rfl⟩) ?_
      simp only [Act.put, List.setIfInBounds_toArray, List.set_cons_zero, List.set_cons_succ]
      refine wpAny_ready (rs := [8]) (by kernel_rfl) (by simp) ?_
      refine AllReady.cons rfl (fun K hK => ?_) AllReady.nil
      go_simp
      refine hK _ _ ?_
      clear hK K
      refine wpAny_done (by kernel_rfl) ?_ _
      clear c1 f1 c0 f0 c0'
      go_wp2_with fail
      go_ret
      exact ready.done h hN hown1 hgrow hlie
end Go.Proofs.Ybulkbuhe
