/-
  The walks of count, lift, raise (times 0) and the comparer.
-/
import Derived.Test.YbulkbuheDoorW1
import Derived.Deep.RegionWith
namespace Go.Proofs.YbulkbuheDoor
open Go.RowKit Fl
attribute [local go_sem] run_store_float setCell_drewN alloc_drewN

set_option maxHeartbeats 400000 in
theorem same_walk (a b : Nat) (w : World) (h : ab a = ab b) :
    Calls Ybad.prog 7 #[.float .f64 a, .float .f64 b] w fun e w' => e = .returned (.bool true) ∧ w' = w := by
  have h1 : FloatKind.f64.format.order a b = ord (ab a) (ab a) := by rw [order_is, ← h]
  have h2 : FloatKind.f64.format.order a a = ord (ab a) (ab a) := order_is a a
  have h3 : FloatKind.f64.format.order b b = ord (ab a) (ab a) := by rw [order_is, ← h]
  clear h
  generalize ord (ab a) (ab a) = o at h1 h2 h3
  go_enter Ybad.func7, Ybad.ntmps7
  go_wp2
  · go_ret
    exact ⟨rfl, rfl⟩
  · go_ret
    exact ⟨congrArg (fun b => Ending.returned (.bool b)) (by cases ho : (o == some .eq) <;> simp_all), rfl⟩

/-- The cells of a job that 'count' reads and writes. -/
structure Job (w : World) (b : Nat) (sub lat : Nat) : Prop where
  sub : w.cell? ⟨b, 3, none⟩ = some (.float .f64 sub)
  span : ∃ v, w.cell? ⟨b, 4, none⟩ = some v
  bound : ∃ v, w.cell? ⟨b, 5, none⟩ = some v
  lat : w.cell? ⟨b, 6, none⟩ = some (.float .f64 lat)
  lee : ∃ v, w.cell? ⟨b, 7, none⟩ = some v
  soft : ∀ i, w.frozen? ⟨b, i, none⟩ = false

theorem Job.alloc {w : World} {b sub lat : Nat} (h : Job w b sub lat) (hb : b < w.heap.size) (o : Obj) : Job (w.alloc o) b sub lat := by
  obtain ⟨c3, ⟨v4, c4⟩, ⟨v5, c5⟩, c6, ⟨v7, c7⟩, fz⟩ := h
  have hc : ∀ i, (w.alloc o).cell? ⟨b, i, none⟩ = w.cell? ⟨b, i, none⟩ := fun i => World.cell?_alloc_lt w o ⟨b, i, none⟩ hb
  have hf : ∀ i, (w.alloc o).frozen? ⟨b, i, none⟩ = w.frozen? ⟨b, i, none⟩ := fun i => ((Below.refl w.heap.size w).alloc (Nat.le_refl _) o).frozen (p := ⟨b, i, none⟩) hb
  exact ⟨by rw [hc]; exact c3, ⟨v4, by rw [hc]; exact c4⟩, ⟨v5, by rw [hc]; exact c5⟩, by rw [hc]; exact c6, ⟨v7, by rw [hc]; exact c7⟩, fun i => by rw [hf]; exact fz i⟩
theorem Job.drewN {w : World} {b sub lat : Nat} (h : Job w b sub lat) (n : Nat) : Job (w.drewN n) b sub lat := ⟨h.sub, h.span, h.bound, h.lat, h.lee, h.soft⟩

set_option maxHeartbeats 400000 in
theorem count_walk (b sub lat span : Nat) (w : World) (hj : Job w b sub lat) (h0 : Fit sub) (h1 : Fit lat) (h2 : Fit span) :
    Calls Ybad.prog 8 #[.pointer (some ⟨b, 0, none⟩), .float .f64 span] w fun e w' => ∃ bd le n, e = .returned (.tuple #[]) ∧ Fit bd ∧ Fit le ∧ ab bd = addUp (ab sub) (ab span) ∧ ab le = lee (ab sub) (ab span) (ab lat) ∧
      w' = (((w.setCell ⟨b, 4, none⟩ (.float .f64 span)).setCell ⟨b, 5, none⟩ (.float .f64 bd)).setCell ⟨b, 7, none⟩ (.float .f64 le)).drewN n := by
  obtain ⟨c3, ⟨v4, c4⟩, ⟨v5, c5⟩, c6, ⟨v7, c7⟩, fz⟩ := hj
  go_enter Ybad.func8, Ybad.ntmps8
  go_wp2_with (go_at_call 11; refine (boundOf_walk _ _ _ (by assumption) (by assumption)).mono ?_; rintro e w' ⟨r, n, rfl, hr, er, rfl⟩)
  go_region_with (go_at_call 12; refine (leeway_walk _ _ _ _ (by assumption) (by assumption) (by assumption)).mono ?_; rintro e w' ⟨r2, n2, rfl, hr2, er2, rfl⟩)
  all_goals
    go_end0
    exact ⟨r, r2, _, rfl, hr, hr2, er, er2, rfl⟩

set_option maxHeartbeats 400000 in
theorem lift_walk (b sub lat span add : Nat) (by_ : Int) (w : World) (hj : Job w b sub lat) (hsp : w.cell? ⟨b, 4, none⟩ = some (.float .f64 span)) (hby : ∃ v, w.cell? ⟨b, 2, none⟩ = some v) (h0 : Fit sub) (h1 : Fit lat) (h2 : Fit span) (h3 : Fit add) :
    Calls Ybad.prog 6 #[.pointer (some ⟨b, 0, none⟩), .float .f64 add, .int .u64 by_] w fun e w' => ∃ sp bd le n, e = .returned (.tuple #[]) ∧ ab sp = addUp (ab span) (ab add) ∧ ab bd = addUp (ab sub) (ab sp) ∧ ab le = lee (ab sub) (ab sp) (ab lat) ∧
      w' = ((((w.setCell ⟨b, 4, none⟩ (.float .f64 sp)).setCell ⟨b, 5, none⟩ (.float .f64 bd)).setCell ⟨b, 7, none⟩ (.float .f64 le)).setCell ⟨b, 2, none⟩ (.int .u64 by_)).drewN n := by
  obtain ⟨v2, c2⟩ := hby
  have fz := hj.soft
  go_enter Ybad.func6, Ybad.ntmps6
  go_wp2_with fail
  refine (addUp_walk span add _ h2 h3).mono ?_
  rintro e w' ⟨sp, n, rfl, hsp', esp, rfl⟩
  have HE : Hid (ab sp = addUp (ab span) (ab add)) := esp
  clear esp
  go_wp2_with fail
  refine (count_walk b sub lat sp (w.drewN n) ⟨hj.sub, hj.span, hj.bound, hj.lat, hj.lee, hj.soft⟩ h0 h1 hsp').mono ?_
  rintro e w' ⟨bd, le, n2, rfl, hbd, hle, ebd, ele, rfl⟩
  have HB : Hid (ab bd = addUp (ab sub) (ab sp)) := ebd
  have HL : Hid (ab le = lee (ab sub) (ab sp) (ab lat)) := ele
  clear ebd ele
  go_wp2_with fail
  go_end0
  exact ⟨sp, bd, le, _, rfl, HE.out, HB.out, HL.out, rfl⟩

set_option maxHeartbeats 1600000 in
theorem raise_walk0 (b sub lat span add : Nat) (by_ reach : Int) (w : World) (hb : b < w.heap.size) (hj : Job w b sub lat) (hsp : w.cell? ⟨b, 4, none⟩ = some (.float .f64 span)) (hby : ∃ v, w.cell? ⟨b, 2, none⟩ = some v) (h0 : Fit sub) (h1 : Fit lat) (h2 : Fit span) (h3 : Fit add) :
    Calls Ybad.prog 5 #[.pointer (some ⟨b, 0, none⟩), .agg #[.float .f64 add, .int .u64 by_, .int .i32 0, .int .i32 reach]] w fun e w' => ∃ sp bd le n, e = .returned (.tuple #[]) ∧ ab sp = addUp (ab span) (ab add) ∧ ab bd = addUp (ab sub) (ab sp) ∧ ab le = lee (ab sub) (ab sp) (ab lat) ∧
      w' = (((((w.setCell ⟨b, 4, none⟩ (.float .f64 sp)).setCell ⟨b, 5, none⟩ (.float .f64 bd)).setCell ⟨b, 7, none⟩ (.float .f64 le)).setCell ⟨b, 2, none⟩ (.int .u64 by_)).alloc (.cells #[.float .f64 add, .int .u64 by_, .int .i32 0, .int .i32 reach] 43)).drewN n := by
  obtain ⟨v2, c2⟩ := hby
  have fz := hj.soft
  go_enter Ybad.func5, Ybad.ntmps5
  go_wp2_with fail
  go_region_with (first
    | (go_at_call 9; refine (addUp_walk _ _ _ (by assumption) (by assumption)).mono ?_; rintro e w' ⟨sp, n, rfl, hsp', esp, rfl⟩)
    | (go_at_call 8; refine (count_walk _ sub lat _ _ (by exact (hj.alloc hb _).drewN _) (by assumption) (by assumption) (by assumption)).mono ?_; rintro e w' ⟨bd, le, n2, rfl, hbd, hle, ebd, ele, rfl⟩))
  all_goals
    have HE : Hid (ab sp = addUp (ab span) (ab add)) := esp
    have HB : Hid (ab bd = addUp (ab sub) (ab sp)) := ebd
    have HL : Hid (ab le = lee (ab sub) (ab sp) (ab lat)) := ele
    clear esp ebd ele
    go_wp2_with fail
    go_end0
    exact ⟨sp, bd, le, _, rfl, HE.out, HB.out, HL.out, rfl⟩
end Go.Proofs.YbulkbuheDoor
