/-
  The walks of Grid, UpTo and AddUpTimes at whole numbers.
-/
import Derived.Test.YbulkbuheDoorX1
namespace Go.Proofs.YbulkbuheDoor
open Go.RowKit Fl

theorem exp_le2 {x : Nat} {n : Int} (h : I x n) (hs : n.natAbs < 4503599627370496) : expN x ≤ 1074 := by
  have hm := I_mag h
  have hE := E_eq
  apply Nat.le_of_not_lt
  intro hlt
  have hm2 : 4503599627370496 ≤ mantN x := by
    unfold mantN
    unfold expN at hlt
    split
    · rename_i h0; rw [if_pos h0] at hlt; omega
    · omega
  have h1 : U ≤ 2 ^ (expN x - 1) := by
    rw [U]
    exact Nat.pow_le_pow_right (by decide) (by omega)
  have h2 : 4503599627370496 * U ≤ mantN x * 2 ^ (expN x - 1) := Nat.mul_le_mul hm2 h1
  rw [hm] at h2
  have h3 : 4503599627370496 ≤ n.natAbs := Nat.le_of_mul_le_mul_right h2 U_pos
  omega
theorem exp_zero {x : Nat} (h : I x 0) : expN x = 1 := by
  have hm := I_mag h
  have h0 : mantN x = 0 := by
    rw [Int.natAbs_zero, Nat.zero_mul] at hm
    rcases Nat.mul_eq_zero.1 hm with h | h
    · exact h
    · exact absurd h (Nat.ne_of_gt (Nat.pow_pos (by decide)))
  unfold mantN at h0
  unfold expN
  split
  · rfl
  · rename_i hc; rw [if_neg hc] at h0; omega

theorem sub_nn {t x : Nat} {u v : Int} (ht : Val t u) (hx : Val x v) (h : v < u) : ∃ r, Ieee.double.sub t x = some r ∧ r ≤ 9218868437227405312 := by
  obtain ⟨s, m, i, rx, ex⟩ := ht
  obtain ⟨q, n, j, ry, ey⟩ := hx
  have ry' : (Ieee.double.read x).opposite = .number (!q) n (-1074 + (j : Int)) := by rw [ry]; rfl
  obtain ⟨neg, mag, k, e, hv⟩ := sum_val rx ry'
  unfold Ieee.Format.sub
  rw [e]
  have hneg : neg = false := by
    cases neg with
    | false => rfl
    | true =>
      exfalso
      rw [sg_not, ← ex, ← ey] at hv
      simp only [sg, if_true] at hv
      omega
  subst hneg
  exact ⟨_, rfl, nearest_nn _ _⟩

def gridN (x : Nat) : Nat := powN ((expN x : Int) - 1075)
theorem grid_val {x : Nat} {n : Int} (h : I x n) (hs : n.natAbs < 4503599627370496) : Val (gridN x) ((2 ^ (expN x - 1) : Nat) : Int) := by
  have he := exp_le2 h hs
  have hp := expN_pos x
  have := powN_val ((expN x : Int) - 1075) (by omega) (by omega)
  rw [show ((expN x : Int) - 1075 + 1074).toNat = expN x - 1 by omega] at this
  exact this

theorem top_I {g q : Nat} (h : Val g ((2 ^ q : Nat) : Int)) (h1 : 1022 ≤ q) (h2 : q < 1074) : ∃ t, Ieee.double.mul g 4845873199050653696 = some t ∧ I t ((2 ^ (q - 1021) : Nat) : Int) := by
  have hE := E_eq
  obtain ⟨s, m, k, rg, eg⟩ := h
  have hw := read_word false 4845873199050653696 (by omega) (by omega)
  rw [word_false] at hw
  have hw' : Ieee.double.read 4845873199050653696 = .number false 4503599627370496 (-1074 + (((E + 1 : Nat)) : Int)) := by rw [hE]; exact hw
  unfold Ieee.Format.mul
  rw [rg, hw']
  refine ⟨_, rfl, ?_⟩
  show I (Ieee.double.nearest (s ^^ false) (m * 4503599627370496) (-1074 + (k : Int) + (-1074 + ((E + 1 : Nat) : Int)))) _
  rw [show (-1074 + (k : Int) + (-1074 + ((E + 1 : Nat) : Int))) = ((k + (E + 1) : Nat) : Int) - ((E + E : Nat) : Int) by omega]
  refine nearest_I _ _ _ _ _ ?_ ?_
  · have e1 : m * 4503599627370496 * 2 ^ (k + (E + 1)) = m * 2 ^ k * (2 ^ 52 * 2 ^ (E + 1)) := by
      rw [Nat.pow_add, show (4503599627370496 : Nat) = 2 ^ 52 from by decide]
      simp only [Nat.mul_assoc, Nat.mul_left_comm]
    rw [e1, Bool.xor_false, sg_mul, ← eg]
    have e2 : 2 ^ q * (2 ^ 52 * 2 ^ (E + 1)) = 2 ^ (q - 1021) * 2 ^ (E + E) := by
      rw [← Nat.pow_add, ← Nat.pow_add, ← Nat.pow_add]; exact congrArg (fun i => 2 ^ i) (by omega)
    have := congrArg (Nat.cast : Nat → Int) e2
    rw [Int.natCast_mul, Int.natCast_mul (2 ^ (q - 1021))] at this
    exact this
  · unfold Small
    rw [Int.natAbs_natCast]
    have : 2 ^ (q - 1021) < 2 ^ 53 := Nat.pow_lt_pow_right (by decide) (by omega)
    exact this

theorem grid_top {x : Nat} {n : Int} (h : I x n) (h0 : 0 ≤ n) (hs : n.natAbs < 4503599627370496) :
    ∃ t, Ieee.double.mul (gridN x) 4845873199050653696 = some t ∧ Fit t ∧ ∃ r, Ieee.double.sub t x = some r ∧ r ≤ 9218868437227405312 := by
  by_cases hz : n = 0
  · subst hz
    have he := exp_zero h
    have hg : gridN x = 1 := by unfold gridN; rw [he]; rfl
    rw [hg]
    refine ⟨9007199254740992, by decide +kernel, by unfold Fit; omega, ?_⟩
    have hv := pow_high 2 (by decide) (by decide)
    unfold I at h
    rw [Int.zero_mul] at h
    exact sub_nn hv h (by decide)
  · have he := exp_ge h hz
    have he2 := exp_le2 h hs
    have hE := E_eq
    obtain ⟨t, ht, hI⟩ := top_I (grid_val h hs) (by omega) (by omega)
    refine ⟨t, ht, Ieee.double.mul_lt ht, sub_nn hI h ?_⟩
    have hm := I_mag h
    have hlt := mantN_lt x
    have h1 : mantN x * 2 ^ (expN x - 1) < 2 ^ 53 * 2 ^ (expN x - 1) := Nat.mul_lt_mul_of_pos_right hlt (Nat.pow_pos (by decide))
    have h2 : 2 ^ 53 * 2 ^ (expN x - 1) = 2 ^ (expN x - 1 - 1021) * U := by
      rw [U, ← Nat.pow_add, ← Nat.pow_add]; exact congrArg (fun i => 2 ^ i) (by omega)
    rw [hm, h2] at h1
    have h3 : ((n.natAbs * U : Nat) : Int) < ((2 ^ (expN x - 1 - 1021) * U : Nat) : Int) := by exact_mod_cast h1
    rw [Int.natCast_mul, Int.natCast_mul] at h3
    rw [show ((n.natAbs : Nat) : Int) = n by omega] at h3
    exact h3

theorem p971 : ∃ v : Int, Val (powN 971) v ∧ ∀ k : Nat, k ≤ 1074 → ((2 ^ k : Nat) : Int) < v := by
  have hv := powN_val 971 (by decide) (by decide)
  refine ⟨_, hv, ?_⟩
  intro k hk
  have : 2 ^ k < 2 ^ ((971 : Int) + 1074).toNat := Nat.pow_lt_pow_right (by decide) (by omega)
  exact Int.ofNat_lt.2 this

set_option maxHeartbeats 1000000 in
theorem grid_walk (x : Nat) (n : Int) (w : World) (hf : Fit x) (h : I x n) (h0 : 0 ≤ n) (hs : n.natAbs < 4503599627370496) :
    Calls Ybad.prog 15 #[.float .f64 x] w fun e w' => ∃ t, e = .returned (.tuple #[.float .f64 (gridN x), .float .f64 t]) ∧ Fit t ∧ (∃ r, Ieee.double.sub t x = some r ∧ r ≤ 9218868437227405312) ∧ w' = w := by
  obtain ⟨t, ht, ft, hr⟩ := grid_top h h0 hs
  have he := exp_le2 h hs
  have hp := expN_pos x
  obtain ⟨v, hv, hlt⟩ := p971
  have hne : (FloatKind.f64.format.order (gridN x) (powN 971) == some .eq) = false := by
    have : FloatKind.f64.format.order (gridN x) (powN 971) = some .lt := by
      show Ieee.double.order _ _ = _
      rw [order_val (grid_val h hs) hv, cmp_lt (hlt _ (by omega))]
    rw [this]; rfl
  have hm : ∀ (ty : TypeId) (w : World), (binOp .mul ty (.float .f64 (gridN x)) (.float .f64 4845873199050653696)).run Ybad.prog w = .ok (.float .f64 t) w := fun ty w => run_float_arith w .mul ty .f64 _ _ _ ht
  have HR : Hid (∃ r, Ieee.double.sub t x = some r ∧ r ≤ 9218868437227405312) := hr
  clear hr ht hv hlt
  go_enter Ybad.func15, Ybad.ntmps15
  go_wp2_with fail
  refine (ulp_walk x _ hf (by omega)).mono ?_
  rintro e w' ⟨rfl, rfl⟩
  rw [show powN ((expN x : Int) - 1075) = gridN x from rfl]
  go_wp2_with fail
  refine (power_walk 971 _ (by decide) (by decide)).mono ?_
  rintro e w' ⟨rfl, rfl⟩
  go_wp2_with fail
  go_ret2
  exact ⟨t, rfl, ft, HR.out, rfl⟩

theorem pow_ge {k j : Nat} (h : j ≤ k) : (some (compare ((2 ^ k : Nat) : Int) ((2 ^ j : Nat) : Int)) == some Ordering.gt || some (compare ((2 ^ k : Nat) : Int) ((2 ^ j : Nat) : Int)) == some Ordering.eq) = true := by
  have : 2 ^ j ≤ 2 ^ k := Nat.pow_le_pow_right (by decide) h
  generalize 2 ^ j = a at this
  generalize 2 ^ k = b at this
  by_cases he : a = b
  · subst he; rw [cmp_self]; rfl
  · rw [cmp_gt (by omega)]; rfl

theorem grain_ge {y g k : Nat} {b : Int} (h : I y b) (hb : b ≠ 0) (hs : Small b) (hg : Val g ((2 ^ k : Nat) : Int)) (hk : k ≤ 1074) :
    (FloatKind.f64.format.order (powN ((expN y : Int) - 1075 + Lib.ctz 64 (mantN y))) g == some .gt || FloatKind.f64.format.order (powN ((expN y : Int) - 1075 + Lib.ctz 64 (mantN y))) g == some .eq) = true := by
  have hp := expN_pos y
  have he := exp_le h hs
  have hm := mantN_lt y
  have hn := mant_ne h hb hs
  have hc := ctz_lt (mantN y) hn (by omega)
  have hge := ctz_ge (mantN y) (1075 - expN y) hn (by omega) (by rw [mant_dvd h hs]; exact Nat.dvd_mul_left _ _)
  have hv := powN_val ((expN y : Int) - 1075 + Lib.ctz 64 (mantN y)) (by omega) (by omega)
  have ho : FloatKind.f64.format.order (powN ((expN y : Int) - 1075 + Lib.ctz 64 (mantN y))) g = _ := order_val hv hg
  rw [ho]
  exact pow_ge (by omega)

set_option maxHeartbeats 1000000 in
theorem upTo_zero (y g : Nat) (w : World) (h : I y 0) :
    Calls Ybad.prog 16 #[.float .f64 y, .float .f64 g] w fun e w' => e = .returned (.float .f64 y) ∧ w' = w := by
  have h0 : FloatKind.f64.format.order y 0 = some .eq := by rw [ord_zero h, cmp_self]
  go_enter Ybad.func16, Ybad.ntmps16
  go_wp2_with fail
  go_ret
  exact ⟨rfl, rfl⟩
set_option maxHeartbeats 1000000 in
theorem upTo_pos (y g k : Nat) (b : Int) (w : World) (hf : Fit y) (h : I y b) (hb : b ≠ 0) (hs : Small b) (hg : Val g ((2 ^ k : Nat) : Int)) (hk : k ≤ 1074) (hT : Tab w) :
    Calls Ybad.prog 16 #[.float .f64 y, .float .f64 g] w fun e w' => e = .returned (.float .f64 y) ∧ w' = w := by
  have h0 : (FloatKind.f64.format.order y 0 == some .eq) = false := by rw [ord_zero h]; exact cmp_ne hb
  have hge := grain_ge h hb hs hg hk
  go_enter Ybad.func16, Ybad.ntmps16
  go_wp2_with fail
  refine (isInf_walk y b _ h hs).mono ?_
  rintro e w' ⟨rfl, rfl⟩
  go_wp2_with fail
  refine (grain_walk y b _ hf h hb hs hT).mono ?_
  rintro e w' ⟨rfl, rfl⟩
  generalize powN ((expN y : Int) - 1075 + Lib.ctz 64 (mantN y)) = gr at hge
  go_wp2_with fail
  go_ret
  exact ⟨rfl, rfl⟩
end Go.Proofs.YbulkbuheDoor
