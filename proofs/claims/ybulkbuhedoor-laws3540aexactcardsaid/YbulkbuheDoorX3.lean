/-
  The walk of AddUpTimes at whole numbers.
-/
import Derived.Test.YbulkbuheDoorX2
namespace Go.Proofs.YbulkbuheDoor
open Go.RowKit Fl

/-- What the loop keeps. -/
structure Kept (b T : Int) (w : World) (vx vn : Value) (wr : World) (x : Nat) (n a : Int) (k : Nat) : Prop where
  vx : vx = .float .f64 x
  vn : vn = .int .i64 n
  fit : Fit x
  is : I x a
  nn : 0 ≤ a
  lo : -2147483648 ≤ n
  hi : n < 2147483648
  sum : a + max n 0 * b = T
  wr : wr = w.drewN k

theorem Kept.le {b T : Int} {w : World} {vx vn : Value} {wr : World} {x : Nat} {n a : Int} {k : Nat} (h : Kept b T w vx vn wr x n a k) (hb : 0 ≤ b) : a ≤ T := by
  have := h.sum
  have h2 : 0 ≤ max n 0 * b := Int.mul_nonneg (by omega) hb
  omega

theorem Tab.drewN {w : World} (h : Tab w) (n : Nat) : Tab (w.drewN n) := h

theorem geq_I {x y : Nat} {a b : Int} (hx : I x a) (hy : I y b) : (FloatKind.f64.format.order x y == some .gt || FloatKind.f64.format.order x y == some .eq) = decide (b ≤ a) := by
  have h : FloatKind.f64.format.order x y = some (compare a b) := order_I hx hy
  rw [h]
  rcases Int.lt_trichotomy a b with h | h | h
  · rw [cmp_lt h]; simp; omega
  · subst h; rw [cmp_self]; simp
  · rw [cmp_gt h]; simp; omega

/-- The last step: x + float64(n) * step. -/
structure Last (x y fn : Nat) (T : Int) (p s : Nat) : Prop where
  mul : ∀ (ty : TypeId) (w : World), (binOp .mul ty (.float .f64 fn) (.float .f64 y)).run Ybad.prog w = .ok (.float .f64 p) w
  add : ∀ (ty : TypeId) (w : World), (binOp .add ty (.float .f64 x) (.float .f64 p)).run Ybad.prog w = .ok (.float .f64 s) w
  fit : Fit s
  is : I s T
theorem last_of {x y fn : Nat} {a b n T : Int} (hx : I x a) (hy : I y b) (hn : I fn n) (h1 : Small (n * b)) (h2 : Small (a + n * b)) (hT : a + n * b = T) : ∃ p s, Last x y fn T p s := by
  obtain ⟨p, ep, hp⟩ := mul_I hn hy h1
  obtain ⟨s, es, hs⟩ := add_I hx hp h2
  exact ⟨p, s, fun ty w => run_float_arith w .mul ty .f64 _ _ _ ep, fun ty w => run_float_arith w .add ty .f64 _ _ _ es, Ieee.double.add_lt es, hT ▸ hs⟩

theorem toInt_run {x : Nat} {n : Int} (h : I x n) (h1 : -9223372036854775808 ≤ n) (h2 : n ≤ 9223372036854775807) (w : World) : (convert 28 3 (.float .f64 x)).run Ybad.prog w = .ok (.int .i64 n) w := by
  refine run_convert_float_int w 28 3 .f64 .i64 x n (by rw [Ybad.underlying28]; rfl) Ybad.underlying3 ?_
  unfold floatToIntVal
  have : (FloatKind.f64.decode x).toInt .zero = some n := toInt_I h
  rw [this]
  simp only
  rw [if_pos ⟨h1, h2⟩]

def TimesPost (T : Int) (w : World) (e : Ending) (w' : World) : Prop := ∃ r k, e = .returned (.float .f64 r) ∧ Fit r ∧ I r T ∧ w' = w.drewN k

set_option maxHeartbeats 2000000 in
set_option maxRecDepth 100000 in
theorem times_walk (x y : Nat) (n a b T : Int) (w : World) (fx : Fit x) (fy : Fit y) (hx : I x a) (hy : I y b) (ha : 0 ≤ a) (hb : 0 ≤ b) (hn1 : -2147483648 ≤ n) (hn2 : n < 2147483648) (hT : a + max n 0 * b = T) (hlt : T < 1125899906842624) (hbl : b < 65536) (tab : Tab w) :
    Calls Ybad.prog 10 #[.float .f64 x, .float .f64 y, .int .i64 n] w (TimesPost T w) := by
  have hbs : Small b := by unfold Small; omega
  go_enter Ybad.func10, Ybad.ntmps10
  go_wp2_with fail
  go_loopw [0, 2] (fun vx vn wr => ∃ x n a k, Kept b T w vx vn wr x n a k) (fun _ vn _ => (intOf vn).toNat)
  case atStart => exact ⟨x, n, a, 0, rfl, rfl, fx, hx, ha, hn1, hn2, hT, (World.drewN_zero _).symm⟩
  case round =>
    clear hx ha hn1 hn2 hT fx
    obtain ⟨x, n, a, k, hK⟩ := hrel
    have hle := hK.le hb
    obtain ⟨rfl, rfl, fx, hx, ha, hn1, hn2, hT, rfl⟩ := hK
    have hsa : Small a := by unfold Small; omega
    by_cases hn : 0 < n
    · have hmx : max n 0 = n := by omega
      rw [hmx] at hT
      go_wp2_with fail
      refine (isInf_walk x a _ hx hsa).mono ?_
      rintro e w' ⟨rfl, rfl⟩
      go_wp2_with fail
      refine (grid_walk x a _ fx hx ha (by omega)).mono ?_
      rintro e w' ⟨t, rfl, ft, hr, rfl⟩
      have HR : Hid (∃ r, Ieee.double.sub t x = some r ∧ r ≤ 9218868437227405312) := hr
      clear hr
      by_cases hb0 : b = 0
      · subst hb0
        have h0 : FloatKind.f64.format.order y 0 = some .eq := by rw [ord_zero hy, cmp_self]
        go_wp2_with fail
        refine (upTo_zero y (gridN x) _ hy).mono ?_
        rintro e w' ⟨rfl, rfl⟩
        go_wp2_with fail
        go_ret
        exact ⟨x, _, rfl, fx, by rw [Int.mul_zero, Int.add_zero] at hT; rw [← hT]; exact hx, rfl⟩
      · have h0 : (FloatKind.f64.format.order y 0 == some .eq) = false := by rw [ord_zero hy]; exact cmp_ne hb0
        go_wp2_with fail
        refine (upTo_pos y (gridN x) _ b _ fy hy hb0 hbs (grid_val hx (by omega)) (by have := exp_le2 hx (by omega); omega) (tab.drewN _)).mono ?_
        rintro e w' ⟨rfl, rfl⟩
        obtain ⟨r, er, hrn⟩ := HR.out
        obtain ⟨q, eq, hqn⟩ := div_nn hrn fy hy (by omega)
        have hsub : ∀ (ty : TypeId) (w : World), (binOp .sub ty (.float .f64 t) (.float .f64 x)).run Ybad.prog w = .ok (.float .f64 r) w := fun ty w => run_float_arith w .sub ty .f64 _ _ _ er
        have hdiv : ∀ (ty : TypeId) (w : World), (binOp .quo ty (.float .f64 r) (.float .f64 y)).run Ybad.prog w = .ok (.float .f64 q) w := fun ty w => run_float_arith w .quo ty .f64 _ _ _ eq
        go_wp2_with fail
        refine (floor_walk q _ hqn).mono ?_
        rintro e w' ⟨rfl, rfl⟩
        have hfn : I (floatOfInt .f64 n) n := ofInt_I n (by unfold Small; omega)
        have hnb : 0 ≤ n * b := Int.mul_nonneg (by omega) hb
        have hcs := floor_cases hqn
        generalize floorN q = f at hcs
        by_cases hstop : (∃ M : Nat, I f M ∧ (M : Int) < n)
        · obtain ⟨M, hM, hMn⟩ := hstop
          have hge : (FloatKind.f64.format.order f (floatOfInt .f64 n) == some .gt || FloatKind.f64.format.order f (floatOfInt .f64 n) == some .eq) = false := by
            rw [geq_I hM hfn]; simp; omega
          have hMb : ((M : Int) + 1) * b ≤ n * b := Int.mul_le_mul_of_nonneg_right (by omega) hb
          have hMb0 : 0 ≤ (M : Int) * b := Int.mul_nonneg (by omega) hb
          rw [Int.add_mul, Int.one_mul] at hMb
          obtain ⟨p, s, hL⟩ := last_of hx hy hM (T := a + M * b) (by unfold Small; omega) (by unfold Small; omega) rfl
          have hmul := hL.mul
          have hadd := hL.add
          have hcv := toInt_run hM (by omega) (by omega)
          clear hcs
          go_wp2_with fail
          refine (addUp_whole s y (a + M * b) b _ hL.fit fy hL.is hy (by unfold Small; omega) hbs (by unfold Small; omega)).mono ?_
          rintro e w' ⟨s2, k2, rfl, fs2, hs2, rfl⟩
          go_wp2_with fail
          go_roundw
          case rel =>
            refine ⟨s2, n - (M + 1), a + M * b + b, k + k2, rfl, rfl, fs2, hs2, by omega, by omega, by omega, ?_, rfl⟩
            rw [show max (n - ((M : Int) + 1)) 0 = n - (M + 1) by omega, Int.sub_mul, Int.add_mul, Int.one_mul]
            omega
          case measure => simp [intOf]; omega
        · have hge : (FloatKind.f64.format.order f (floatOfInt .f64 n) == some .gt || FloatKind.f64.format.order f (floatOfInt .f64 n) == some .eq) = true := by
            rcases hcs with ⟨M, hM⟩ | hB
            · rw [geq_I hM hfn]
              have : ¬ (M : Int) < n := fun h => hstop ⟨M, hM, h⟩
              simp; omega
            · have : FloatKind.f64.format.order f (floatOfInt .f64 n) = some .gt := hB _ n hfn (by omega)
              rw [this]; rfl
          obtain ⟨p, s, hL⟩ := last_of hx hy hfn (by unfold Small; omega) (by unfold Small; omega) hT
          have hmul := hL.mul
          have hadd := hL.add
          clear hcs hstop
          go_wp2_with fail
          go_ret
          exact ⟨s, _, rfl, hL.fit, hL.is, rfl⟩
    · have hmx : max n 0 = 0 := by omega
      rw [hmx, Int.zero_mul, Int.add_zero] at hT
      go_wp2_with fail
      go_ret
      exact ⟨x, _, rfl, fx, by rw [← hT]; exact hx, rfl⟩
end Go.Proofs.YbulkbuheDoor
