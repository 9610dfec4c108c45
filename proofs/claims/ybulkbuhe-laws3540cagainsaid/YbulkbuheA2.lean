/-
  Small whole numbers as floats; the walks of slices.Min, fold and summed.
-/
import Derived.Test.YbulkbuheA1
import Derived.Test.YbulkbuheVal
import Derived.Deep.RegionWith
namespace Go.Proofs.Ybulkbuhe
open Go.RowKit Fl
attribute [local go_sem] run_store_float setCell_drewN alloc_drewN

/-- 'float64(n)'. -/
@[irreducible] def fl (n : Int) : Nat := floatOfInt .f64 n
theorem fl_eq (n : Int) : floatOfInt .f64 n = fl n := by unfold fl; rfl
theorem fl_I (n : Int) (h : Small n) : I (fl n) n := by unfold fl; exact ofInt_I n h
theorem fl_ord (a b : Int) (ha : Small a) (hb : Small b) : FloatKind.f64.format.order (fl a) (fl b) = some (compare a b) := order_I (fl_I a ha) (fl_I b hb)
theorem cmp_lt {a b : Int} (h : a < b) : compare a b = Ordering.lt := by
  show compareOfLessAndEq a b = _
  unfold compareOfLessAndEq
  rw [if_pos h]
theorem fl_lt (a b : Int) (ha : Small a) (hb : Small b) : (FloatKind.f64.format.order (fl a) (fl b) == some .lt) = decide (a < b) := by
  rw [fl_ord a b ha hb]
  rcases Int.lt_trichotomy a b with h | h | h
  · rw [cmp_lt h]; simp [h]
  · subst h; rw [cmp_self]; simp
  · rw [cmp_gt h]; simp; omega
theorem fl_geq (a b : Int) (ha : Small a) (hb : Small b) : (FloatKind.f64.format.order (fl a) (fl b) == some .gt || FloatKind.f64.format.order (fl a) (fl b) == some .eq) = decide (b ≤ a) := by
  rw [fl_ord a b ha hb]
  rcases Int.lt_trichotomy a b with h | h | h
  · rw [cmp_lt h]; simp; omega
  · subst h; rw [cmp_self]; simp
  · rw [cmp_gt h]; simp; omega
theorem fl_leq (a b : Int) (ha : Small a) (hb : Small b) : (FloatKind.f64.format.order (fl a) (fl b) == some .lt || FloatKind.f64.format.order (fl a) (fl b) == some .eq) = decide (a ≤ b) := by
  rw [fl_ord a b ha hb]
  rcases Int.lt_trichotomy a b with h | h | h
  · rw [cmp_lt h]; simp; omega
  · subst h; rw [cmp_self]; simp
  · rw [cmp_gt h]; simp; omega
theorem run_min (ts : Array TypeId) (t : TypeId) (a b : Int) (ha : Small a) (hb : Small b) (w : World) : (Builtin.min_ ts t #[.float .f64 (fl a), .float .f64 (fl b)]).run Yba.prog w = .ok (.float .f64 (fl (min a b))) w := by
  have ho := fl_ord a b ha hb
  rcases Int.lt_trichotomy a b with h | h | h
  · rw [cmp_lt h] at ho
    rw [show min a b = a by omega]
    simp [Builtin.min_, Builtin.min2, ho]
  · subst h
    rw [cmp_self] at ho
    rw [show min a a = a by omega]
    simp [Builtin.min_, Builtin.min2, ho]
  · rw [cmp_gt h] at ho
    rw [show min a b = b by omega]
    simp [Builtin.min_, Builtin.min2, ho]

/-- The least of xs 0 .. xs k. -/
def mn (xs : Nat → Int) : Nat → Int
  | 0 => xs 0
  | k + 1 => min (mn xs k) (xs (k + 1))

def FlPost (n : Int) (w : World) (e : Ending) (w' : World) : Prop := e = .returned (.float .f64 (fl n)) ∧ w' = w

set_option maxHeartbeats 1000000 in
set_option maxRecDepth 100000 in
theorem min_walk (w : World) (nb o len cap : Nat) (xs : Nat → Int) (h1 : 1 ≤ len) (h8 : len ≤ 8) (hx : ∀ i, i < len → w.cell? ⟨nb, o + i, none⟩ = some (.float .f64 (fl (xs i)))) (hs : ∀ i, Small (xs i)) (hm : ∀ k, Small (mn xs k)) :
    Calls Yba.prog 56 #[.slice (some ⟨nb, o, none⟩) len cap] w (FlPost (mn xs (len - 1)) w) := by
  have h0 := hx 0 (by omega)
  have HX : Hid (∀ i, i < len → w.cell? ⟨nb, o + i, none⟩ = some (.float .f64 (fl (xs i)))) := hx
  have d0 : decide ((len : Int) < 1) = false := by rw [decide_eq_false_iff_not]; omega
  rw [Nat.add_zero] at h0
  clear hx
  have HS : Hid (∀ i, Small (xs i)) := hs
  have HM : Hid (∀ k, Small (mn xs k)) := hm
  clear hs hm
  go_enter Yba.func56, Yba.ntmps56
  go_wp2_with fail
  go_loopw [3, 4] (fun v u wr => ∃ k : Nat, 1 ≤ k ∧ k ≤ len ∧ u = .int .i64 k ∧ v = .float .f64 (fl (mn xs (k - 1))) ∧ wr = w) (fun _ u _ => len - (intOf u).toNat)
  case atStart => exact ⟨1, Nat.le_refl _, h1, rfl, rfl, rfl⟩
  case round =>
    clear h0
    obtain ⟨k, hk1, hk, rfl, rfl, rfl⟩ := hrel
    by_cases hlt : k < len
    · have g := HX.out k hlt
      have hr := fun ts t w => run_min ts t (mn xs (k - 1)) (xs k) (HM.out _) (HS.out k) w
      go_wp2_with fail
      go_roundw
      case rel => exact ⟨k + 1, by omega, by omega, by go_num, by rw [show k + 1 - 1 = (k - 1) + 1 by omega, mn, show k - 1 + 1 = k by omega], by trivial⟩
      case measure => simp [intOf]; omega
    · have d : decide ((k : Int) < (len : Int)) = false := by rw [decide_eq_false_iff_not]; omega
      go_wp2_with fail
      go_ret
      exact ⟨by rw [show len = k by omega]; rfl, rfl⟩

def FlPostA (n : Int) (w : World) (e : Ending) (w' : World) : Prop := e = .returned (.float .f64 (fl n)) ∧ w' = w.alloc (.cells #[] 45)
set_option maxHeartbeats 1000000 in
theorem fold_walk (w : World) (nb o len cap : Nat) (xs : Nat → Int) (h1 : 1 ≤ len) (h8 : len ≤ 8) (hx : ∀ i, i < len → w.cell? ⟨nb, o + i, none⟩ = some (.float .f64 (fl (xs i)))) (hs : ∀ i, Small (xs i)) (hm : ∀ k, Small (mn xs k)) :
    Calls Yba.prog 54 #[.agg #[], .slice (some ⟨nb, o, none⟩) len cap] w (FlPostA (mn xs (len - 1)) w) := by
  have hlt : nb < w.heap.size := World.block_lt_of_cell? w ⟨nb, o + 0, none⟩ (hx 0 (by omega))
  have hx' : ∀ i, i < len → (w.alloc (.cells #[] 45)).cell? ⟨nb, o + i, none⟩ = some (.float .f64 (fl (xs i))) := fun i hi => by
    rw [World.cell?_alloc_lt _ _ _ hlt]; exact hx i hi
  have HW := min_walk (w.alloc (.cells #[] 45)) nb o len cap xs h1 h8 hx' hs hm
  clear hx hx' hs hm
  go_enter Yba.func54, Yba.ntmps54
  go_wp2_with fail
  refine HW.mono ?_
  rintro e w' ⟨rfl, rfl⟩
  clear HW
  go_wp2_with fail
  go_ret
  exact ⟨rfl, rfl⟩

theorem run_fold (w : World) : (method 215 45 (.agg #[]) "example.com/ledgerline/ledgerline/internal/sched.fold").run Yba.prog w = .ok (54, .agg #[]) w := by kernel_rfl

theorem run_ahead (w : World) : (nilAhead 215 45 (.agg #[]) "example.com/ledgerline/ledgerline/internal/sched.fold").run Yba.prog w = .ok (some false) w := by kernel_rfl

/-- Node n's cell o is now v; the node's block alone has turned. -/
def SetPost (base tb cb nb N cap : Nat) (M : Nat → Nat → Value) (w : World) (e : Ending) (w' : World) : Prop :=
  e = .returned (.tuple #[]) ∧ Tr w' base tb cb nb N cap M ∧ Chg (fun i => i = nb) w w'

set_option maxHeartbeats 1000000 in
set_option maxRecDepth 100000 in
theorem summed_walk (w : World) (base tb cb nb N cap n c : Nat) (M : Nat → Nat → Value) (xs : Nat → Int) (h : Tr w base tb cb nb N cap M) (hn : n < N) (h0 : M n 0 = .int .i32 c) (h1 : 1 ≤ c) (h8 : c ≤ 8) (hx : ∀ i, i < c → M n (11 + i) = .float .f64 (fl (xs i))) (hs : ∀ i, Small (xs i)) (hm : ∀ k, Small (mn xs k)) :
    Calls Yba.prog 18 #[.pointer (some ⟨nb, n * 36, none⟩), .iface 45 (.agg #[])] w (SetPost base tb cb nb N cap (upd M n 27 (.float .f64 (fl (mn xs (c - 1))))) w) := by
  have g0 := h.at hn (show 0 < 36 by decide)
  rw [h0, Nat.add_zero] at g0
  have g27 := h.at hn (show 27 < 36 by decide)
  have sf := h.softn (n * 36 + 27)
  have hc1 : (c : Int) ≤ 8 := by omega
  have hc0 : (0 : Int) ≤ c := by omega
  have hf := run_fold
  have ha := run_ahead
  have hcell : ∀ i, i < c → w.drew.cell? ⟨nb, n * 36 + 11 + i, none⟩ = some (.float .f64 (fl (xs i))) := fun i hi => by
    rw [World.cell?_drew, Nat.add_assoc, h.at hn (by omega), hx i hi]
  have HW := fun cap => fold_walk w.drew nb (n * 36 + 11) c cap xs h1 h8 hcell hs hm
  have HC : Hid (∀ cap, Calls Yba.prog 54 #[.agg #[], .slice (some ⟨nb, n * 36 + 11, none⟩) c cap] w.drew (FlPostA (mn xs (c - 1)) w.drew)) := HW
  clear HW hcell hs hm hx
  have hlt := h.ltn
  have g27' := (h.drew.alloc (.cells #[] 45)).at hn (show 27 < 36 by decide)
  have sf' := (h.drew.alloc (.cells #[] 45)).softn (n * 36 + 27)
  go_enter Yba.func18, Yba.ntmps18
  go_wp2_with fail
  go_region_with (go_at_call 54; refine (HC.out _).mono ?_; rintro e w' ⟨rfl, rfl⟩)
  all_goals
    go_end0
    refine ⟨rfl, ?_, ?_⟩
    · exact ((h.set (n := n) (o := 27) (by decide) _).alloc _).drew
    · exact ((Chg.setCell (S := fun i => i = nb) w ⟨nb, n * 36 + 27, none⟩ _ rfl).trans (Chg.alloc _ _ _) (fun _ _ h => h)).trans (Chg.drew _ _) (fun _ _ h => h)
end Go.Proofs.Ybulkbuhe
