/-
  LawS3540CAgain: sums of small whole floats; the small closures.
-/
import Derived.Test.YbulkbuheF4
namespace Go.Proofs.Ybulkbuhe
open Go.RowKit Fl Ieee
attribute [local go_sem] run_store_float setCell_drewN alloc_drewN
attribute [-go_sem] World.setCell_alloc_at World.setCell_alloc_past

theorem fl_nat (N : Nat) (h0 : N ≠ 0) (hN : N < 9007199254740992) : fl (N : Int) = double.word false ((N.log2 + 1022) * 4503599627370496 + N * 2 ^ (52 - N.log2)) := by
  unfold fl
  show double.nearest (decide ((N : Int) < 0)) (N : Int).natAbs 0 = _
  rw [decide_eq_false (by omega), Int.natAbs_natCast]
  exact nearest_int false N 0 0 N rfl h0 hN h0
theorem fl_add {a b : Int} (ha : Small a) (hb : Small b) (hp : 0 < a + b) (hs : Small (a + b)) : double.add (fl a) (fl b) = some (fl (a + b)) := by
  obtain ⟨s, m, i, rx, ex⟩ := fl_I a ha
  obtain ⟨t, n, j, ry, ey⟩ := fl_I b hb
  obtain ⟨neg, mag, k, e, hv⟩ := sum_val rx ry
  obtain ⟨N, hN⟩ : ∃ N : Nat, a + b = (N : Int) := ⟨(a + b).toNat, by omega⟩
  have hv2 : sg neg (mag * 2 ^ k) = (a + b) * (U : Int) := by rw [hv, ← ex, ← ey, Int.add_mul]
  have hU := U_pos
  have hpos : 0 < sg neg (mag * 2 ^ k) := by rw [hv2]; exact Int.mul_pos hp (by omega)
  have hneg : neg = false := by
    cases neg with
    | false => rfl
    | true => exfalso; unfold sg at hpos; rw [if_pos rfl] at hpos; omega
  subst hneg
  have hm : mag * 2 ^ k = N * 2 ^ 1074 := by
    have h1 : sg false (mag * 2 ^ k) = ((mag * 2 ^ k : Nat) : Int) := rfl
    rw [h1, hN] at hv2
    have h2 : ((mag * 2 ^ k : Nat) : Int) = ((N * U : Nat) : Int) := by rw [hv2, Int.natCast_mul]
    have h3 := Int.ofNat.inj h2
    rw [h3, U, E_eq]
  have hmag : mag ≠ 0 := by
    intro h
    rw [h, Nat.zero_mul] at hpos
    exact absurd hpos (by decide)
  have hN0 : N ≠ 0 := by omega
  have hNs : N < 9007199254740992 := by unfold Small at hs; omega
  unfold Format.add
  rw [e, hN, fl_nat N hN0 hNs]
  show some (double.nearest false mag (-1074 + (k : Int))) = _
  rw [show (-1074 + (k : Int)) = (k : Int) - (1074 : Nat) by omega, nearest_int false mag k 1074 N hm hmag hNs hN0]
theorem fl_zero : fl 0 = 0 := by
  unfold fl
  decide
theorem run_addF (t : TypeId) {a b : Int} (ha : Small a) (hb : Small b) (hp : 0 < a + b) (hs : Small (a + b)) (w : World) : (binOp .add t (.float .f64 (fl a)) (.float .f64 (fl b))).run Yba.prog w = .ok (.float .f64 (fl (a + b))) w :=
  run_float_arith w .add t .f64 _ _ _ (by show double.add (fl a) (fl b) = _; exact fl_add ha hb hp hs)

theorem ent11 (args : Array Value) (w : World) : (callFunc 11 args).run Yba.prog w = .ok (.enter 11 args) w := by kernel_rfl
theorem ent12 (args : Array Value) (w : World) : (callFunc 12 args).run Yba.prog w = .ok (.enter 12 args) w := by kernel_rfl
theorem ent13 (args : Array Value) (w : World) : (callFunc 13 args).run Yba.prog w = .ok (.enter 13 args) w := by kernel_rfl
theorem ent14 (args : Array Value) (w : World) : (callFunc 14 args).run Yba.prog w = .ok (.enter 14 args) w := by kernel_rfl
set_option maxHeartbeats 400000 in
theorem value11 (x : Nat) (w : World) : Calls Yba.prog 11 #[.float .f64 x] w (RetPost (.float .f64 x) w) := by
  go_enter Yba.func11, Yba.ntmps11
  go_wp2
  go_ret
  exact ⟨rfl, rfl⟩
set_option maxHeartbeats 400000 in
theorem bar12 (w : World) (bb : Nat) (x : Nat) (h : w.cell? ⟨bb, 0, none⟩ = some (.float .f64 x)) : Calls Yba.prog 12 #[.pointer (some ⟨bb, 0, none⟩)] w (RetPost (.float .f64 x) w) := by
  go_enter Yba.func12, Yba.ntmps12
  go_wp2
  go_ret
  exact ⟨rfl, rfl⟩
set_option maxHeartbeats 400000 in
theorem bound13 (w : World) (j : Int) (x : Nat) : Calls Yba.prog 13 #[.int .i32 j, .float .f64 x] w (RetPost (.float .f64 x) w) := by
  go_enter Yba.func13, Yba.ntmps13
  go_wp2
  go_ret
  exact ⟨rfl, rfl⟩
/-- What 'extra' holds. -/
def ExtO (base : Nat) (ax : Option Addr) (lenx : Nat) (ext : Nat → Int) (w : World) : Prop :=
  ∀ j, (j < lenx → ∃ y, ax = some y ∧ y.block < base ∧ w.cell? (y.add j) = some (.int .u8 (ext j))) ∧ (¬ j < lenx → ext j = 0)
theorem add_block (y : Addr) (j : Nat) : (y.add j).block = y.block := by unfold Addr.add; split <;> rfl
theorem ExtO.chg {base : Nat} {ax : Option Addr} {lenx : Nat} {ext : Nat → Int} {w w' : World} {S : Nat → Prop} (h : ExtO base ax lenx ext w) (hc : Chg S w w') (hS : ∀ k, S k → base ≤ k) : ExtO base ax lenx ext w' := fun j =>
  ⟨fun hj => by
    obtain ⟨y, e, hy, hcell⟩ := (h j).1 hj
    refine ⟨y, e, hy, ?_⟩
    rw [hc.cell (p := y.add j) (World.block_lt_of_cell? w _ hcell) (fun e => by have := hS _ e; rw [add_block] at this; omega)]
    exact hcell, (h j).2⟩
set_option maxHeartbeats 1000000 in
theorem ext15 (w : World) (base : Nat) (ax : Option Addr) (lenx capx : Nat) (ext : Nat → Int) (j : Nat) (h : ExtO base ax lenx ext w) : Calls Yba.prog 15 #[.slice ax lenx capx, .int .i64 (j : Int)] w (RetPost (.int .u8 (ext j)) w) := by
  by_cases hj : j < lenx
  · obtain ⟨y, rfl, _, hc⟩ := (h j).1 hj
    have d1 : decide ((j : Int) < (lenx : Int)) = true := by rw [decide_eq_true_iff]; omega
    have hj0 : (0 : Int) ≤ (j : Int) := by omega
    have hjl : (j : Int) < (lenx : Int) := by omega
    clear h
    go_enter Yba.func15, Yba.ntmps15
    go_wp2
    go_ret
    exact ⟨rfl, rfl⟩
  · have d1 : decide ((j : Int) < (lenx : Int)) = false := by rw [decide_eq_false_iff_not]; omega
    have he := (h j).2 hj
    clear h
    go_enter Yba.func15, Yba.ntmps15
    go_wp2
    go_ret
    exact ⟨by rw [he]; rfl, rfl⟩
end Go.Proofs.Ybulkbuhe
