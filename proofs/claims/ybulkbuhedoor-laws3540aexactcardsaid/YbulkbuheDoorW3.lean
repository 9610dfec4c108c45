/-
  The walk of the law LawS3540ALift.
-/
import Derived.Test.YbulkbuheDoorW2
import Derived.Deep.QuietTactic
import Derived.BigQuiet
namespace Go.Proofs.YbulkbuheDoor
open Go.RowKit Fl
attribute [local go_sem] run_store_float setCell_drewN alloc_drewN

/-- A new job, its block. -/
def jobCells (sub span lat : Nat) : Array Value := #[.float .f64 0, .int .u64 0, .int .u64 7, .float .f64 sub, .float .f64 span, .float .f64 0, .float .f64 lat, .float .f64 0, .float .f64 0,
  .pointer none, .int .i32 0, .bool false, .bool false, .float .f64 0, .pointer none, .float .f64 0, .pointer none, .float .f64 0, .pointer none, .string ⟨#[]⟩, .float .f64 0, .float .f64 0, .int .i64 0, .float .f64 0, .float .f64 0,
  .string ⟨#[]⟩, .float .f64 0, .bool false, .bool false, .bool false, .bool false, .string ⟨#[]⟩, .slice none 0 0, .float .f64 0, .float .f64 0, .float .f64 0, .float .f64 0, .float .f64 0, .pointer none, .bool false, .float .f64 0, .int .i64 0]

/-- What is known of the three blocks: the argument's at N, the two jobs' behind it. -/
structure Three (W : World) (N sub span add lat : Nat) (by_ reach : Int) : Prop where
  size : N + 3 ≤ W.heap.size
  i0 : W.cell? ⟨N, 0, none⟩ = some (.float .f64 sub)
  i2 : W.cell? ⟨N, 2, none⟩ = some (.float .f64 add)
  i3 : W.cell? ⟨N, 3, none⟩ = some (.float .f64 lat)
  i4 : W.cell? ⟨N, 4, none⟩ = some (.int .u64 by_)
  p : Job W (N + 1) sub lat
  q : Job W (N + 1 + 1) sub lat
  q2 : ∃ v, W.cell? ⟨N + 1 + 1, 2, none⟩ = some v
  q4 : W.cell? ⟨N + 1 + 1, 4, none⟩ = some (.float .f64 span)

theorem three_start (w : World) (sub span add lat : Nat) (by_ reach : Int) :
    let W := ((w.alloc (.cells #[.float .f64 sub, .float .f64 span, .float .f64 add, .float .f64 lat, .int .u64 by_, .int .i32 reach] 46)).alloc (.cells (jobCells sub span lat) 40)).alloc (.cells (jobCells sub span lat) 40)
    Three W w.heap.size sub span add lat by_ reach ∧ W.cell? ⟨w.heap.size + 1, 4, none⟩ = some (.float .f64 span) ∧ ∃ v, W.cell? ⟨w.heap.size + 1, 2, none⟩ = some v := by
  intro W
  have z1 : (w.alloc (.cells #[.float .f64 sub, .float .f64 span, .float .f64 add, .float .f64 lat, .int .u64 by_, .int .i32 reach] 46)).heap.size = w.heap.size + 1 := by simp
  have z2 : ((w.alloc (.cells #[.float .f64 sub, .float .f64 span, .float .f64 add, .float .f64 lat, .int .u64 by_, .int .i32 reach] 46)).alloc (.cells (jobCells sub span lat) 40)).heap.size = w.heap.size + 1 + 1 := by simp
  have c0 : ∀ i, W.cell? ⟨w.heap.size, i, none⟩ = (#[.float .f64 sub, .float .f64 span, .float .f64 add, .float .f64 lat, .int .u64 by_, .int .i32 reach] : Array Value)[i]? := fun i => by
    rw [World.cell?_alloc_lt _ _ _ (by show w.heap.size < _; rw [z2]; omega), World.cell?_alloc_lt _ _ _ (by show w.heap.size < _; rw [z1]; omega), World.cell?_alloc_new]
  have c1 : ∀ i, W.cell? ⟨w.heap.size + 1, i, none⟩ = (jobCells sub span lat)[i]? := fun i => by
    rw [World.cell?_alloc_lt _ _ _ (by show w.heap.size + 1 < _; rw [z2]; omega), ← z1, World.cell?_alloc_new]
  have c2 : ∀ i, W.cell? ⟨w.heap.size + 1 + 1, i, none⟩ = (jobCells sub span lat)[i]? := fun i => by
    rw [← z2, World.cell?_alloc_new]
  have f1 : ∀ i, W.frozen? ⟨w.heap.size + 1, i, none⟩ = false := fun i => by
    rw [World.frozen?_alloc_past _ _ _ (by rw [z2]; omega), World.frozen?_alloc_at _ _ _ _ z1.symm]
  have f2 : ∀ i, W.frozen? ⟨w.heap.size + 1 + 1, i, none⟩ = false := fun i => World.frozen?_alloc_at _ _ _ _ z2.symm
  refine ⟨⟨by simp [W], by rw [c0]; rfl, by rw [c0]; rfl, by rw [c0]; rfl, by rw [c0]; rfl, ⟨by rw [c1]; rfl, ⟨_, by rw [c1]; rfl⟩, ⟨_, by rw [c1]; rfl⟩, by rw [c1]; rfl, ⟨_, by rw [c1]; rfl⟩, f1⟩,
    ⟨by rw [c2]; rfl, ⟨_, by rw [c2]; rfl⟩, ⟨_, by rw [c2]; rfl⟩, by rw [c2]; rfl, ⟨_, by rw [c2]; rfl⟩, f2⟩, ⟨_, by rw [c2]; rfl⟩, by rw [c2]; rfl⟩, by rw [c1]; rfl, ⟨_, by rw [c1]; rfl⟩⟩

/-- Four cells of one block set. -/
def set4 (W : World) (b : Nat) (sp bd le : Nat) (by_ : Int) : World :=
  (((W.setCell ⟨b, 4, none⟩ (.float .f64 sp)).setCell ⟨b, 5, none⟩ (.float .f64 bd)).setCell ⟨b, 7, none⟩ (.float .f64 le)).setCell ⟨b, 2, none⟩ (.int .u64 by_)

theorem ne_off {b i j : Nat} (h : i ≠ j) : (⟨b, i, none⟩ : Addr) ≠ ⟨b, j, none⟩ := fun e => h (by cases e; rfl)
theorem ne_blk {b c i j : Nat} (h : b ≠ c) : (⟨b, i, none⟩ : Addr) ≠ ⟨c, j, none⟩ := fun e => h (by cases e; rfl)
theorem set4_size (W : World) (b sp bd le : Nat) (by_ : Int) : (set4 W b sp bd le by_).heap.size = W.heap.size := by simp [set4]
theorem set4_other (W : World) (b sp bd le : Nat) (by_ : Int) (c i : Nat) (h : b ≠ c) : (set4 W b sp bd le by_).cell? ⟨c, i, none⟩ = W.cell? ⟨c, i, none⟩ := by
  unfold set4
  rw [World.cell?_setCell_other _ _ _ _ (ne_blk h), World.cell?_setCell_other _ _ _ _ (ne_blk h), World.cell?_setCell_other _ _ _ _ (ne_blk h), World.cell?_setCell_other _ _ _ _ (ne_blk h)]
theorem set4_kept (W : World) (b sp bd le : Nat) (by_ : Int) (i : Nat) (h4 : 4 ≠ i) (h5 : 5 ≠ i) (h7 : 7 ≠ i) (h2 : 2 ≠ i) : (set4 W b sp bd le by_).cell? ⟨b, i, none⟩ = W.cell? ⟨b, i, none⟩ := by
  unfold set4
  rw [World.cell?_setCell_other _ _ _ _ (ne_off h2), World.cell?_setCell_other _ _ _ _ (ne_off h7), World.cell?_setCell_other _ _ _ _ (ne_off h5), World.cell?_setCell_other _ _ _ _ (ne_off h4)]
theorem set4_frozen (W : World) (b sp bd le : Nat) (by_ : Int) (a : Addr) : (set4 W b sp bd le by_).frozen? a = W.frozen? a := by simp [set4]
theorem set4_new (W : World) (b sp bd le : Nat) (by_ : Int) (c2 : ∃ v, W.cell? ⟨b, 2, none⟩ = some v) (c4 : ∃ v, W.cell? ⟨b, 4, none⟩ = some v) (c5 : ∃ v, W.cell? ⟨b, 5, none⟩ = some v) (c7 : ∃ v, W.cell? ⟨b, 7, none⟩ = some v) :
    (set4 W b sp bd le by_).cell? ⟨b, 2, none⟩ = some (.int .u64 by_) ∧ (set4 W b sp bd le by_).cell? ⟨b, 4, none⟩ = some (.float .f64 sp) ∧ (set4 W b sp bd le by_).cell? ⟨b, 5, none⟩ = some (.float .f64 bd) ∧ (set4 W b sp bd le by_).cell? ⟨b, 7, none⟩ = some (.float .f64 le) := by
  obtain ⟨v2, c2⟩ := c2
  obtain ⟨v4, c4⟩ := c4
  obtain ⟨v5, c5⟩ := c5
  obtain ⟨v7, c7⟩ := c7
  unfold set4
  refine ⟨World.cell?_setCell_same (u := v2) _ _ _ ?_, ?_, ?_, ?_⟩
  · rw [World.cell?_setCell_other _ _ _ _ (ne_off (by decide)), World.cell?_setCell_other _ _ _ _ (ne_off (by decide)), World.cell?_setCell_other _ _ _ _ (ne_off (by decide))]; exact c2
  · rw [World.cell?_setCell_other _ _ _ _ (ne_off (by decide)), World.cell?_setCell_other _ _ _ _ (ne_off (by decide)), World.cell?_setCell_other _ _ _ _ (ne_off (by decide))]
    exact World.cell?_setCell_same (u := v4) _ _ _ c4
  · rw [World.cell?_setCell_other _ _ _ _ (ne_off (by decide)), World.cell?_setCell_other _ _ _ _ (ne_off (by decide))]
    refine World.cell?_setCell_same (u := v5) _ _ _ ?_
    rw [World.cell?_setCell_other _ _ _ _ (ne_off (by decide))]; exact c5
  · rw [World.cell?_setCell_other _ _ _ _ (ne_off (by decide))]
    refine World.cell?_setCell_same (u := v7) _ _ _ ?_
    rw [World.cell?_setCell_other _ _ _ _ (ne_off (by decide)), World.cell?_setCell_other _ _ _ _ (ne_off (by decide))]; exact c7
theorem set4_below (W : World) (b sp bd le : Nat) (by_ : Int) (B : Nat) (h : B ≤ b) : Below B W (set4 W b sp bd le by_) :=
  ((((Below.refl B W).setCell (p := ⟨b, 4, none⟩) h _).setCell (p := ⟨b, 5, none⟩) h _).setCell (p := ⟨b, 7, none⟩) h _).setCell (p := ⟨b, 2, none⟩) h _

/-- What the law reads of one job. -/
structure Read (W : World) (b : Nat) (by_ : Int) (sub sp bd lat le : Nat) : Prop where
  c2 : W.cell? ⟨b, 2, none⟩ = some (.int .u64 by_)
  c3 : W.cell? ⟨b, 3, none⟩ = some (.float .f64 sub)
  c4 : W.cell? ⟨b, 4, none⟩ = some (.float .f64 sp)
  c5 : W.cell? ⟨b, 5, none⟩ = some (.float .f64 bd)
  c6 : W.cell? ⟨b, 6, none⟩ = some (.float .f64 lat)
  c7 : W.cell? ⟨b, 7, none⟩ = some (.float .f64 le)

theorem raised {W : World} {N sub span add lat : Nat} {by_ reach : Int} (hT : Three W N sub span add lat by_ reach) (hp2 : ∃ v, W.cell? ⟨N + 1, 2, none⟩ = some v) (sp bd le n : Nat) (o : Obj) :
    Three (((set4 W (N + 1) sp bd le by_).alloc o).drewN n) N sub span add lat by_ reach ∧ Read (((set4 W (N + 1) sp bd le by_).alloc o).drewN n) (N + 1) by_ sub sp bd lat le ∧ Below N W (((set4 W (N + 1) sp bd le by_).alloc o).drewN n) := by
  have hz := hT.size
  have za : ∀ b i, b < N + 3 → (((set4 W (N + 1) sp bd le by_).alloc o).drewN n).cell? ⟨b, i, none⟩ = (set4 W (N + 1) sp bd le by_).cell? ⟨b, i, none⟩ := fun b i hb => by
    rw [World.cell?_drewN]; exact World.cell?_alloc_lt _ _ _ (by show b < _; rw [set4_size]; omega)
  have zf : ∀ b i, b < N + 3 → (((set4 W (N + 1) sp bd le by_).alloc o).drewN n).frozen? ⟨b, i, none⟩ = W.frozen? ⟨b, i, none⟩ := fun b i hb => by
    rw [World.frozen?_drewN, World.frozen?_alloc_past _ _ _ (by rw [set4_size]; omega), set4_frozen]
  have zo : ∀ b i, b < N + 3 → N + 1 ≠ b → (((set4 W (N + 1) sp bd le by_).alloc o).drewN n).cell? ⟨b, i, none⟩ = W.cell? ⟨b, i, none⟩ := fun b i hb hn => by rw [za b i hb, set4_other _ _ _ _ _ _ _ _ hn]
  obtain ⟨n2, n4, n5, n7⟩ := set4_new W (N + 1) sp bd le by_ hp2 hT.p.span hT.p.bound hT.p.lee
  have r3 : (((set4 W (N + 1) sp bd le by_).alloc o).drewN n).cell? ⟨N + 1, 3, none⟩ = some (.float .f64 sub) := by
    rw [za _ _ (by omega), set4_kept _ _ _ _ _ _ _ (by decide) (by decide) (by decide) (by decide)]; exact hT.p.sub
  have r6 : (((set4 W (N + 1) sp bd le by_).alloc o).drewN n).cell? ⟨N + 1, 6, none⟩ = some (.float .f64 lat) := by
    rw [za _ _ (by omega), set4_kept _ _ _ _ _ _ _ (by decide) (by decide) (by decide) (by decide)]; exact hT.p.lat
  have r2 := (za (N + 1) 2 (by omega)).trans n2
  have r4 := (za (N + 1) 4 (by omega)).trans n4
  have r5 := (za (N + 1) 5 (by omega)).trans n5
  have r7 := (za (N + 1) 7 (by omega)).trans n7
  have q := hT.q
  refine ⟨⟨?_, ?_, ?_, ?_, ?_, ⟨r3, ⟨_, r4⟩, ⟨_, r5⟩, r6, ⟨_, r7⟩, fun i => (zf _ i (by omega)).trans (hT.p.soft i)⟩, ⟨?_, ?_, ?_, ?_, ?_, fun i => (zf _ i (by omega)).trans (q.soft i)⟩, ?_, ?_⟩, ⟨r2, r3, r4, r5, r6, r7⟩, ?_⟩
  · simp [set4_size]; omega
  · rw [zo _ _ (by omega) (by omega)]; exact hT.i0
  · rw [zo _ _ (by omega) (by omega)]; exact hT.i2
  · rw [zo _ _ (by omega) (by omega)]; exact hT.i3
  · rw [zo _ _ (by omega) (by omega)]; exact hT.i4
  · rw [zo _ _ (by omega) (by omega)]; exact q.sub
  · rw [zo _ _ (by omega) (by omega)]; exact q.span
  · rw [zo _ _ (by omega) (by omega)]; exact q.bound
  · rw [zo _ _ (by omega) (by omega)]; exact q.lat
  · rw [zo _ _ (by omega) (by omega)]; exact q.lee
  · rw [zo _ _ (by omega) (by omega)]; exact hT.q2
  · rw [zo _ _ (by omega) (by omega)]; exact hT.q4
  · have hb := ((set4_below W (N + 1) sp bd le by_ N (by omega)).alloc (by rw [set4_size]; omega) o)
    exact ⟨hb.os, hb.tape, hb.output, hb.size, hb.block⟩

theorem lifted4 {W : World} {N sub span add lat : Nat} {by_ reach : Int} {sp bd le : Nat} (hT : Three W N sub span add lat by_ reach) (hR : Read W (N + 1) by_ sub sp bd lat le) (sp2 bd2 le2 n : Nat) :
    Read ((set4 W (N + 1 + 1) sp2 bd2 le2 by_).drewN n) (N + 1) by_ sub sp bd lat le ∧ Read ((set4 W (N + 1 + 1) sp2 bd2 le2 by_).drewN n) (N + 1 + 1) by_ sub sp2 bd2 lat le2 ∧
    ((set4 W (N + 1 + 1) sp2 bd2 le2 by_).drewN n).cell? ⟨N, 0, none⟩ = some (.float .f64 sub) ∧ ((set4 W (N + 1 + 1) sp2 bd2 le2 by_).drewN n).cell? ⟨N, 3, none⟩ = some (.float .f64 lat) ∧ ((set4 W (N + 1 + 1) sp2 bd2 le2 by_).drewN n).cell? ⟨N, 4, none⟩ = some (.int .u64 by_) ∧
    Below N W ((set4 W (N + 1 + 1) sp2 bd2 le2 by_).drewN n) := by
  have q := hT.q
  obtain ⟨n2, n4, n5, n7⟩ := set4_new W (N + 1 + 1) sp2 bd2 le2 by_ hT.q2 q.span q.bound q.lee
  have zo : ∀ b i, N + 1 + 1 ≠ b → ((set4 W (N + 1 + 1) sp2 bd2 le2 by_).drewN n).cell? ⟨b, i, none⟩ = W.cell? ⟨b, i, none⟩ := fun b i hn => by rw [World.cell?_drewN, set4_other _ _ _ _ _ _ _ _ hn]
  have m : ∀ i, ((set4 W (N + 1 + 1) sp2 bd2 le2 by_).drewN n).cell? ⟨N + 1 + 1, i, none⟩ = (set4 W (N + 1 + 1) sp2 bd2 le2 by_).cell? ⟨N + 1 + 1, i, none⟩ := fun i => World.cell?_drewN ..
  refine ⟨⟨?_, ?_, ?_, ?_, ?_, ?_⟩, ⟨(m 2).trans n2, ?_, (m 4).trans n4, (m 5).trans n5, ?_, (m 7).trans n7⟩, ?_, ?_, ?_, ?_⟩
  · rw [zo _ _ (by omega)]; exact hR.c2
  · rw [zo _ _ (by omega)]; exact hR.c3
  · rw [zo _ _ (by omega)]; exact hR.c4
  · rw [zo _ _ (by omega)]; exact hR.c5
  · rw [zo _ _ (by omega)]; exact hR.c6
  · rw [zo _ _ (by omega)]; exact hR.c7
  · rw [World.cell?_drewN, set4_kept _ _ _ _ _ _ _ (by decide) (by decide) (by decide) (by decide)]; exact q.sub
  · rw [World.cell?_drewN, set4_kept _ _ _ _ _ _ _ (by decide) (by decide) (by decide) (by decide)]; exact q.lat
  · rw [zo _ _ (by omega)]; exact hT.i0
  · rw [zo _ _ (by omega)]; exact hT.i3
  · rw [zo _ _ (by omega)]; exact hT.i4
  · have hb := set4_below W (N + 1 + 1) sp2 bd2 le2 by_ N (by omega)
    exact ⟨hb.os, hb.tape, hb.output, hb.size, hb.block⟩

set_option maxHeartbeats 1600000 in
theorem lift_law (sub span add lat : Nat) (by_ reach : Int) (w : World) (h0 : Fit sub) (h1 : Fit span) (h2 : Fit add) (h3 : Fit lat) :
    Calls Ybad.prog 4 #[.agg #[.float .f64 sub, .float .f64 span, .float .f64 add, .float .f64 lat, .int .u64 by_, .int .i32 reach]] w fun e w' => e = .returned (.bool true) ∧ Below w.heap.size w w' := by
  go_enter Ybad.func4, Ybad.ntmps4
  go_wp2_with fail
  obtain ⟨hT, hp4, hp2⟩ := three_start w sub span add lat by_ reach
  have hbW := ((((Below.refl w.heap.size w).alloc (Nat.le_refl _) (.cells #[.float .f64 sub, .float .f64 span, .float .f64 add, .float .f64 lat, .int .u64 by_, .int .i32 reach] 46)).alloc (by simp) (.cells (jobCells sub span lat) 40)).alloc (by simp; omega) (.cells (jobCells sub span lat) 40))
  refine (raise_walk0 (w.heap.size + 1) sub lat span add by_ reach _ (by have := hT.size; omega) hT.p hp4 hp2 h0 h3 h1 h2).mono ?_
  rintro e w' ⟨sp, bd, le, n, rfl, e1, e2, e3, hw'⟩
  obtain ⟨hT', hR, hB⟩ := raised hT hp2 sp bd le n (.cells #[.float .f64 add, .int .u64 by_, .int .i32 0, .int .i32 reach] 43)
  have hw2 : w' = ((set4 (((w.alloc (.cells #[.float .f64 sub, .float .f64 span, .float .f64 add, .float .f64 lat, .int .u64 by_, .int .i32 reach] 46)).alloc (.cells (jobCells sub span lat) 40)).alloc (.cells (jobCells sub span lat) 40)) (w.heap.size + 1) sp bd le by_).alloc (.cells #[.float .f64 add, .int .u64 by_, .int .i32 0, .int .i32 reach] 43)).drewN n := hw'
  rw [← hw2] at hT' hR hB
  have hB' := hbW.trans hB
  clear hw' hw2 hT hp4 hp2 hB hbW
  have HE : Hid (ab sp = addUp (ab span) (ab add)) := e1
  have HB : Hid (ab bd = addUp (ab sub) (ab sp)) := e2
  have HL : Hid (ab le = lee (ab sub) (ab sp) (ab lat)) := e3
  clear e1 e2 e3
  have i2 := hT'.i2
  have i4 := hT'.i4
  go_wp2_with fail
  clear i2 i4
  refine (lift_walk (w.heap.size + 1 + 1) sub lat span add by_ _ hT'.q hT'.q4 hT'.q2 h0 h3 h1 h2).mono ?_
  rintro e w2 ⟨sp2, bd2, le2, n2, rfl, e1, e2, e3, hw'⟩
  obtain ⟨hR1, hR2, i0, i3, i4, hB⟩ := lifted4 hT' hR sp2 bd2 le2 n2
  have hw2 : w2 = (set4 w' (w.heap.size + 1 + 1) sp2 bd2 le2 by_).drewN n2 := hw'
  rw [← hw2] at hR1 hR2 i0 i3 i4 hB
  have hB2 := hB'.trans hB
  clear hw' hw2 hT' hR hB hB'
  have k1 : ab sp = ab sp2 := by rw [HE.out, e1]
  have k2 : ab bd = ab bd2 := by rw [HB.out, e2, k1]
  have k3 : ab le = ab le2 := by rw [HL.out, e3, k1]
  clear HE HB HL e1 e2 e3
  have K1 : Hid (ab sp = ab sp2) := k1
  have K2 : Hid (ab bd = ab bd2) := k2
  have K3 : Hid (ab le = ab le2) := k3
  clear k1 k2 k3
  obtain ⟨a2, a3, a4, a5, a6, a7⟩ := hR1
  obtain ⟨b2, b3, b4, b5, b6, b7⟩ := hR2
  go_wp2_with fail
  go_quiet ((go_at_call 7; exact Calls.quiet_of_same (same_walk _ _ _ (by first | exact K1.out | exact K2.out | exact K3.out | rfl))))
  go_wp2_with fail
  go_ret
  exact ⟨rfl, ⟨hB2.os, hB2.tape, hB2.output, hB2.size, hB2.block⟩⟩
end Go.Proofs.YbulkbuheDoor
