/-
  The walks of magnitude, power, ulp, Grain, IsInf, Floor and TrailingZeros64; AddUp and AddDown at whole numbers.
-/
import Derived.Test.YbulkbuheDoorVal
import Derived.Test.YbulkbuheDoorW2
import Derived.Lib.TrailingZeros
import Derived.Laws.Bits64b
import Derived.Laws.Externs
namespace Go.Proofs.YbulkbuheDoor
open Go.RowKit Fl

theorem small_zero : Small 0 := by unfold Small; decide
theorem addUp_I {x y : Nat} {a b : Int} (hx : I x a) (hy : I y b) (ha : Small a) (hb : Small b) (hs : Small (a + b)) : ∃ r, addUp (some x) (some y) = some r ∧ I r (a + b) ∧ Fit r := by
  obtain ⟨r, er, hr⟩ := plus_I hx hy hs
  have hfit : Fit r := Ieee.double.add_lt er
  obtain ⟨d, ed, hd⟩ := minus_I hr hx (by rw [show a + b - a = b by omega]; exact hb)
  obtain ⟨f, ef, hf⟩ := minus_I hr hy (by rw [show a + b - b = a by omega]; exact ha)
  rw [show a + b - a = b by omega] at hd
  rw [show a + b - b = a by omega] at hf
  refine ⟨r, ?_, hr, hfit⟩
  unfold addUp exactB
  rw [er, ed, ef, ord_I hd hy, ord_I hf hx, cmp_self, cmp_self]
  rfl
theorem addDown_I {x y : Nat} {a b : Int} (hx : I x a) (hy : I y b) (ha : Small a) (hb : Small b) (hs : Small (a + b)) : ∃ r, addDown (some x) (some y) = some r ∧ I r (a + b) := by
  unfold addDown sumO errO
  cases swapB (some x) (some y) with
  | true =>
    obtain ⟨r, er, hr⟩ := plus_I hy hx (by rw [Int.add_comm]; exact hs)
    obtain ⟨d, ed, hd⟩ := minus_I hr hy (by rw [show b + a - b = a by omega]; exact ha)
    rw [show b + a - b = a by omega] at hd
    obtain ⟨f, ef, hf⟩ := minus_I hx hd (by rw [show a - a = 0 by omega]; exact small_zero)
    rw [show a - a = 0 by omega] at hf
    refine ⟨r, ?_, by rw [Int.add_comm]; exact hr⟩
    simp only [if_true, er, ed, ef, ord_I hf I_zero, cmp_self]
    rfl
  | false =>
    obtain ⟨r, er, hr⟩ := plus_I hx hy hs
    obtain ⟨d, ed, hd⟩ := minus_I hr hx (by rw [show a + b - a = b by omega]; exact hb)
    rw [show a + b - a = b by omega] at hd
    obtain ⟨f, ef, hf⟩ := minus_I hy hd (by rw [show b - b = 0 by omega]; exact small_zero)
    rw [show b - b = 0 by omega] at hf
    refine ⟨r, ?_, hr⟩
    simp only [Bool.false_eq_true, if_false, er, ed, ef, ord_I hf I_zero, cmp_self]
    rfl
theorem lee_I {t s l : Nat} {a b c : Int} (ft : Fit t) (fs : Fit s) (ht : I t a) (hs : I s b) (hl : I l c) (h1 : Small a) (h2 : Small b) (h3 : Small c) (h4 : Small (c - a)) (h5 : Small (c - a - b)) : ∃ r, lee (some t) (some s) (some l) = some r ∧ I r (c - a - b) := by
  unfold lee negO
  simp only [Option.map_some]
  have n1 : Small (-a) := by unfold Small at *; omega
  have n2 : Small (-b) := by unfold Small at *; omega
  obtain ⟨r, er, hr⟩ := addDown_I hl (neg_I ft ht) h3 n1 h4
  rw [er]
  obtain ⟨q, eq, hq⟩ := addDown_I hr (neg_I fs hs) h4 n2 h5
  exact ⟨q, eq, hq⟩

theorem ab_of {x r : Nat} {n : Int} (h : ab x = some r) (hr : I r n) : I x n := by
  obtain ⟨e, _⟩ := ab_some h
  subst e; exact hr

set_option maxHeartbeats 400000 in
theorem addUp_whole (x y : Nat) (a b : Int) (w : World) (fx : Fit x) (fy : Fit y) (hx : I x a) (hy : I y b) (ha : Small a) (hb : Small b) (hs : Small (a + b)) :
    Calls Ybad.prog 9 #[.float .f64 x, .float .f64 y] w fun e w' => ∃ r n, e = .returned (.float .f64 r) ∧ Fit r ∧ I r (a + b) ∧ w' = w.drewN n := by
  refine (addUp_walk x y w fx fy).mono ?_
  rintro e w' ⟨r, n, rfl, fr, er, rfl⟩
  obtain ⟨q, eq, hq, _⟩ := addUp_I hx hy ha hb hs
  rw [I_num hx, I_num hy, eq] at er
  exact ⟨r, n, rfl, fr, ab_of er hq, rfl⟩

/-- The table of the trailing zeros lies in its variable. -/
def Tab (w : World) : Prop := ∀ j, j < Lib.deBruijn64tab.length → w.cell? ⟨1, j, none⟩ = some (.int .u8 (Lib.deBruijn64tab.getD j 0))

set_option maxHeartbeats 1000000 in
theorem tz_core (x k idx : Nat) (w : World) (hx0 : ((x : Int) == 0) = false)
    (key : IntKind.u64.wrap (bits BinOp.and IntKind.u64 (x : Int) (IntKind.u64.wrap (-(x : Int))) * 285870213051353865) / 288230376151711744 = (idx : Int))
    (hi : idx < 64) (hk : k < 64) (hcell : w.cell? ⟨1, idx, none⟩ = some (.int .u8 k)) :
    Calls Ybad.prog 32 #[.int .u64 x] w fun e w' => e = .returned (.int .i64 k) ∧ w' = w := by
  go_enter Ybad.func32, Ybad.ntmps32
  go_wp2_with (simp only [key])
  go_ret
  exact ⟨rfl, rfl⟩
theorem tz_key (x a : Nat) (hx : x < 18446744073709551616) (hx0 : x ≠ 0) (hlow : x &&& (18446744073709551616 - x) = a) :
    IntKind.u64.wrap (bits BinOp.and IntKind.u64 (x : Int) (IntKind.u64.wrap (-(x : Int))) * 285870213051353865) / 288230376151711744 = ((a * 285870213051353865 % 18446744073709551616 / 288230376151711744 : Nat) : Int) := by
  have e1 : IntKind.u64.wrap (-(x : Int)) = ((18446744073709551616 - x : Nat) : Int) := by rw [IntKind.wrap_u64]; omega
  rw [e1, bits_and_u64_nat x _ hx (by omega), hlow, IntKind.wrap_u64]
  omega
theorem tz_walk (x : Nat) (w : World) (hx : x < 18446744073709551616) (hx0 : x ≠ 0) (hT : Tab w) :
    Calls Ybad.prog 32 #[.int .u64 x] w fun e w' => e = .returned (.int .i64 (Lib.ctz 64 x)) ∧ w' = w := by
  obtain ⟨hlow, hk⟩ := Lib.lowest_bit 64 x hx0 hx
  obtain ⟨hi, htab⟩ := Lib.deBruijn64_at _ hk
  have hcell := hT _ hi
  rw [htab] at hcell
  exact tz_core x _ _ w (by simp; omega) (tz_key x _ hx hx0 hlow) hi hk hcell

theorem low52 (x : Nat) : bits .and .u64 ((x % 9223372036854775808 : Nat) : Int) 4503599627370495 = ((x % 9223372036854775808 % 4503599627370496 : Nat) : Int) := by
  have := bits_and_u64_nat (x % 9223372036854775808) 4503599627370495 (by omega) (by decide)
  rw [show ((4503599627370495 : Nat) : Int) = 4503599627370495 from rfl] at this
  rw [this]
  congr 1
  exact Nat.and_two_pow_sub_one_eq_mod _ 52
theorem top52 (a : Nat) (h : a < 4503599627370496) : bits .or .u64 ((a : Nat) : Int) 4503599627370496 = ((4503599627370496 + a : Nat) : Int) := by
  have := bits_or_u64_nat a 4503599627370496 (by omega) (by decide)
  rw [show ((4503599627370496 : Nat) : Int) = 4503599627370496 from rfl] at this
  rw [this]
  congr 1
  have := Nat.two_pow_add_eq_or_of_lt (i := 52) (b := a) h 1
  rw [Nat.mul_one] at this
  rw [Nat.or_comm]
  exact this.symm
theorem clear63 (x : Nat) (h : Fit x) : bits .andNot .u64 (x : Int) 9223372036854775808 = ((x % 9223372036854775808 : Nat) : Int) := by
  have := u64_andNot_nat x 9223372036854775808 h (by decide)
  rw [show ((9223372036854775808 : Nat) : Int) = 9223372036854775808 from rfl] at this
  rw [this]
  congr 1
  exact Nat.and_two_pow_sub_one_eq_mod x 63

theorem ret_pair {a b c d : Int} (h : a = b) (k : c = d) : Ending.returned (.tuple #[.int .i64 a, .int .u64 c]) = .returned (.tuple #[.int .i64 b, .int .u64 d]) := by rw [h, k]

set_option maxHeartbeats 1000000 in
theorem mag_walk (x : Nat) (w : World) (h : Fit x) :
    Calls Ybad.prog 30 #[.float .f64 x] w fun e w' => e = .returned (.tuple #[.int .i64 (expN x), .int .u64 (mantN x)]) ∧ w' = w := by
  have h1 := run_bits
  have k1 := clear63 x h
  have k2 := low52 x
  have k3 := top52 (x % 9223372036854775808 % 4503599627370496) (Nat.mod_lt _ (by decide))
  have hlt : x % 9223372036854775808 < 9223372036854775808 := Nat.mod_lt _ (by decide)
  unfold expN mantN
  generalize x % 9223372036854775808 = y at k1 k2 k3 hlt
  by_cases h0 : y / 4503599627370496 = 0
  · rw [if_pos h0, if_pos h0]
    have d0 : ((y : Int) / 4503599627370496) = 0 := by omega
    go_enter Ybad.func30, Ybad.ntmps30
    go_wp2_with (simp only [k1, k2, d0])
    go_ret2
    exact ⟨rfl, rfl⟩
  · rw [if_neg h0, if_neg h0]
    go_enter Ybad.func30, Ybad.ntmps30
    go_wp2_with (simp only [k1, k2])
    go_ret2
    rw [show ((y % 4503599627370496 : Nat) : Int) = (y : Int) % 4503599627370496 by omega] at k3
    exact ⟨ret_pair (by omega) k3, rfl⟩

theorem wrap_pow (k : Nat) (h : 2 ^ k < 18446744073709551616) : (IntKind.u64.wrap ((2 : Int) ^ k)).toNat = 2 ^ k := by
  have e : (2 : Int) ^ k = ((2 ^ k : Nat) : Int) := by rw [Int.natCast_pow]; rfl
  rw [e, IntKind.wrap_u64]
  generalize 2 ^ k = m at h
  omega
/-- 2^p. -/
def powN (p : Int) : Nat := if p < -1022 then 2 ^ (p + 1074).toNat else (p + 1023).toNat * 4503599627370496
theorem powN_val (p : Int) (h1 : -1074 ≤ p) (h2 : p ≤ 1023) : Val (powN p) ((2 ^ (p + 1074).toNat : Nat) : Int) := by
  unfold powN
  split
  · exact pow_low _ (by omega)
  · have := pow_high (p + 1023).toNat (by omega) (by omega)
    rw [show (p + 1023).toNat + 51 = (p + 1074).toNat by omega] at this
    exact this
theorem powN_fit (p : Int) (h1 : -1074 ≤ p) (h2 : p ≤ 1023) : powN p < 9218868437227405312 := by
  unfold powN
  split
  · have : 2 ^ (p + 1074).toNat ≤ 2 ^ 52 := Nat.pow_le_pow_right (by decide) (by omega)
    have h : (2 ^ 52 : Nat) = 4503599627370496 := by decide
    omega
  · omega

set_option maxHeartbeats 1000000 in
theorem power_walk (p : Int) (w : World) (h1 : -1074 ≤ p) (h2 : p ≤ 1023) :
    Calls Ybad.prog 23 #[.int .i64 p] w fun e w' => e = .returned (.float .f64 (powN p)) ∧ w' = w := by
  have hb := run_frombits
  have hf := powN_fit p h1 h2
  unfold powN at *
  by_cases hp : p < -1022
  · rw [if_pos hp] at *
    go_enter Ybad.func23, Ybad.ntmps23
    go_wp2
    go_ret
    exact ⟨ret_float (wrap_pow _ (by omega)), rfl⟩
  · rw [if_neg hp] at *
    go_enter Ybad.func23, Ybad.ntmps23
    go_wp2
    go_ret
    exact ⟨ret_float (by omega), rfl⟩

set_option maxHeartbeats 1000000 in
theorem ulp_walk (x : Nat) (w : World) (h : Fit x) (he : expN x ≤ 2046) :
    Calls Ybad.prog 22 #[.float .f64 x] w fun e w' => e = .returned (.float .f64 (powN ((expN x : Int) - 1075))) ∧ w' = w := by
  have hp := expN_pos x
  go_enter Ybad.func22, Ybad.ntmps22
  go_wp2_with fail
  refine (mag_walk x _ h).mono ?_
  rintro e w' ⟨rfl, rfl⟩
  go_wp2_with fail
  refine (power_walk ((expN x : Int) - 1075) _ (by omega) (by omega)).mono ?_
  rintro e w' ⟨rfl, rfl⟩
  go_wp2_with fail
  go_ret
  exact ⟨rfl, rfl⟩

/-- The greatest float is beyond every small whole number. -/
theorem max_val : ∃ v : Int, Val 9218868437227405311 v ∧ ∀ n : Int, n < 9007199254740992 → n * (U : Int) < v := by
  have hw := read_word false 9218868437227405311 (by omega) (by omega)
  obtain ⟨k, hk⟩ : ∃ k : Nat, k = 2045 := ⟨_, rfl⟩
  refine ⟨((9007199254740991 * 2 ^ k : Nat) : Int), ⟨false, 9007199254740991, k, by rw [hk]; exact hw, by simp only [sg, Bool.false_eq_true, if_false]⟩, ?_⟩
  intro n hn
  have h3 : 2 ^ 1 * U ≤ 2 ^ k := by
    have := E_eq
    rw [U, ← Nat.pow_add]
    exact Nat.pow_le_pow_right (by decide) (by omega)
  have h4 : 9007199254740991 * (2 ^ 1 * U) ≤ 9007199254740991 * 2 ^ k := Nat.mul_le_mul_left _ h3
  have h5 : n * (U : Int) < 9007199254740992 * (U : Int) := Int.mul_lt_mul_of_pos_right hn (by exact_mod_cast U_pos)
  have h6 : ((9007199254740991 * (2 ^ 1 * U) : Nat) : Int) ≤ ((9007199254740991 * 2 ^ k : Nat) : Int) := by exact_mod_cast h4
  have h7 : ((9007199254740991 * (2 ^ 1 * U) : Nat) : Int) = 18014398509481982 * (U : Int) := by
    rw [← Nat.mul_assoc, Int.natCast_mul]; rfl
  have h8 : (0 : Int) < U := by exact_mod_cast U_pos
  omega
theorem cmp_lt {a b : Int} (h : a < b) : compare a b = Ordering.lt := by
  show compareOfLessAndEq a b = _
  unfold compareOfLessAndEq
  rw [if_pos h]

set_option maxHeartbeats 1000000 in
theorem isInf_walk (x : Nat) (n : Int) (w : World) (h : I x n) (hs : Small n) :
    Calls Ybad.prog 14 #[.float .f64 x, .int .i64 1] w fun e w' => e = .returned (.bool false) ∧ w' = w := by
  obtain ⟨v, hv, hlt⟩ := max_val
  have ho : FloatKind.f64.format.order x 9218868437227405311 = some .lt := by
    show Ieee.double.order x _ = _
    rw [order_val h hv, cmp_lt (hlt n (by unfold Small at hs; omega))]
  go_enter Ybad.func14, Ybad.ntmps14
  go_wp2
  go_ret
  exact ⟨rfl, rfl⟩

theorem integral_num (name : String) (way : Ieee.Toward) (x : Nat) (s : Bool) (m : Nat) (e : Int) (h : FloatKind.f64.decode x = .number s m e) :
    Extern.MathFloor.toIntegral name way #[.float .f64 x] = pure (.float .f64 (FloatKind.f64.encode ((Ieee.Datum.number s m e).integral way))) := by
  delta Extern.MathFloor.toIntegral
  generalize FloatKind.f64.decode = D at h ⊢
  conv => lhs; whnf
  rw [h]
theorem integral_inf (name : String) (way : Ieee.Toward) (x : Nat) (s : Bool) (h : FloatKind.f64.decode x = .infinity s) :
    Extern.MathFloor.toIntegral name way #[.float .f64 x] = pure (.float .f64 (FloatKind.f64.encode ((Ieee.Datum.infinity s).integral way))) := by
  delta Extern.MathFloor.toIntegral
  generalize FloatKind.f64.decode = D at h ⊢
  conv => lhs; whnf
  rw [h]
theorem integral_run (name : String) (x : Nat) (h : x ≤ 9218868437227405312) :
    Extern.MathFloor.toIntegral name .down #[.float .f64 x] = pure (.float .f64 (floorN x)) := by
  unfold floorN
  rcases read_nn h with ⟨m, e, h'⟩ | h'
  · rw [integral_num name .down x false m e h', h']; rfl
  · rw [integral_inf name .down x false h', h']; rfl
theorem run_floor (x : Nat) (w : World) (h : x ≤ 9218868437227405312) : (callFunc 26 #[.float .f64 x]).run Ybad.prog w = .ok (.value (.float .f64 (floorN x))) w := by
  rw [run_callFunc_extern Ybad.func26 (by kernel_rfl) (by kernel_rfl) (by kernel_rfl) (e := Extern.MathFloor.toIntegral "math.archFloor" .down) (by kernel_rfl)]
  rw [integral_run _ x h]
  rfl

set_option maxHeartbeats 1000000 in
theorem floor_walk (x : Nat) (w : World) (h : x ≤ 9218868437227405312) :
    Calls Ybad.prog 17 #[.float .f64 x] w fun e w' => e = .returned (.float .f64 (floorN x)) ∧ w' = w := by
  have h1 := fun w => run_floor x w h
  go_enter Ybad.func17, Ybad.ntmps17
  go_wp2
  go_ret
  exact ⟨rfl, rfl⟩

theorem mant_ne {y : Nat} {b : Int} (h : I y b) (hb : b ≠ 0) (hs : Small b) : mantN y ≠ 0 := by
  rw [mant_dvd h hs]
  exact Nat.mul_ne_zero (by omega) (Nat.ne_of_gt (Nat.pow_pos (by decide)))
theorem ctz_ge (x k : Nat) (h : x ≠ 0) (hx : x < 18446744073709551616) (hd : 2 ^ k ∣ x) : k ≤ Lib.ctz 64 x := by
  obtain ⟨m, hm, _⟩ := Lib.ctzFrom_spec 64 x (by omega) hx
  have e : Lib.ctz 64 x = Lib.ctzFrom 64 x := by simp [Lib.ctz, h]
  rw [e]
  generalize Lib.ctzFrom 64 x = t at hm
  apply Nat.le_of_not_lt
  intro hlt
  obtain ⟨c, hc⟩ := hd
  have h1 : 2 ^ k = 2 ^ t * 2 * 2 ^ (k - t - 1) := by
    rw [← Nat.pow_succ, ← Nat.pow_add]; congr 1; omega
  rw [hc, h1, Nat.mul_assoc, Nat.mul_assoc] at hm
  have h2 := Nat.eq_of_mul_eq_mul_left (Nat.pow_pos (n := t) (show 0 < 2 by decide)) hm
  generalize 2 ^ (k - t - 1) * c = q at h2
  omega
theorem ctz_lt (x : Nat) (h : x ≠ 0) (hx : x < 18446744073709551616) : Lib.ctz 64 x < 64 := (Lib.lowest_bit 64 x h hx).2

theorem ord_zero {y : Nat} {b : Int} (h : I y b) : FloatKind.f64.format.order y 0 = some (compare b 0) := order_I h I_zero
theorem cmp_ne {a b : Int} (h : a ≠ b) : (some (compare a b) == some Ordering.eq) = false := by
  rcases Int.lt_or_gt_of_ne h with h | h
  · rw [cmp_lt h]; rfl
  · rw [cmp_gt h]; rfl

set_option maxHeartbeats 1000000 in
theorem grain_walk (y : Nat) (b : Int) (w : World) (hf : Fit y) (h : I y b) (hb : b ≠ 0) (hs : Small b) (hT : Tab w) :
    Calls Ybad.prog 24 #[.float .f64 y] w fun e w' => e = .returned (.float .f64 (powN ((expN y : Int) - 1075 + Lib.ctz 64 (mantN y)))) ∧ w' = w := by
  have h0 : (FloatKind.f64.format.order y 0 == some .eq) = false := by rw [ord_zero h]; exact cmp_ne hb
  have hp := expN_pos y
  have he := exp_le h hs
  have hm := mantN_lt y
  have hn := mant_ne h hb hs
  have hc := ctz_lt (mantN y) hn (by omega)
  go_enter Ybad.func24, Ybad.ntmps24
  go_wp2_with fail
  refine (mag_walk y _ hf).mono ?_
  rintro e w' ⟨rfl, rfl⟩
  go_wp2_with fail
  refine (tz_walk (mantN y) _ (by omega) hn hT).mono ?_
  rintro e w' ⟨rfl, rfl⟩
  go_wp2_with fail
  refine (power_walk ((expN y : Int) - 1075 + Lib.ctz 64 (mantN y)) _ (by omega) (by omega)).mono ?_
  rintro e w' ⟨rfl, rfl⟩
  go_wp2_with fail
  go_ret
  exact ⟨rfl, rfl⟩
end Go.Proofs.YbulkbuheDoor
