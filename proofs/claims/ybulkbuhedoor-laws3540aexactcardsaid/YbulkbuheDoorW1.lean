/-
  The walks of floats.AddUp, AddDown and what they come to.
-/
import Derived.Test.YbulkbuheDoorRows
import Derived.Test.YbulkbuheDoorFl
import Derived.WalkKit
import Derived.WalkSpells
import Derived.WalkLawsBesides
namespace Go.Proofs.YbulkbuheDoor
open Go.RowKit Fl

theorem run_bits (x : Nat) (w : World) : (callFunc 28 #[.float .f64 x]).run Ybad.prog w = .ok (.value (.int .u64 x)) w := by
  rw [run_callFunc_extern Ybad.func28 (by kernel_rfl) (by kernel_rfl) (by kernel_rfl) (e := Extern.MathFloatBits.float64bits) (by kernel_rfl)]
  rfl
theorem run_frombits (n : Int) (w : World) : (callFunc 29 #[.int .u64 n]).run Ybad.prog w = .ok (.value (.float .f64 n.toNat)) w := by
  rw [run_callFunc_extern Ybad.func29 (by kernel_rfl) (by kernel_rfl) (by kernel_rfl) (e := Extern.MathFloatBits.float64frombits) (by kernel_rfl)]
  rfl

theorem ret_float {a b : Nat} (h : a = b) : Ending.returned (.float .f64 a) = .returned (.float .f64 b) := by rw [h]

theorem clear_sign (x : Nat) (h : Fit x) : (bits .andNot .u64 (x : Int) 9223372036854775808).toNat = x % 9223372036854775808 := by
  have := u64_andNot_nat x 9223372036854775808 h (by decide)
  rw [show ((9223372036854775808 : Nat) : Int) = 9223372036854775808 from rfl] at this
  rw [this]
  rw [Int.toNat_natCast]
  exact Nat.and_two_pow_sub_one_eq_mod x 63

set_option maxHeartbeats 400000 in
theorem abs_walk (x : Nat) (w : World) (h : Fit x) :
    Calls Ybad.prog 21 #[.float .f64 x] w fun e w' => e = .returned (.float .f64 (x % 9223372036854775808)) ∧ w' = w := by
  have h1 := run_bits
  have h2 := run_frombits
  go_enter Ybad.func21, Ybad.ntmps21
  go_wp2
  go_ret
  exact ⟨ret_float (clear_sign x h), rfl⟩

set_option maxHeartbeats 400000 in
theorem beside_yes (x : Nat) (w : World) :
    Calls Ybad.prog 20 #[.float .f64 x, .bool true] w fun e w' => e = .returned (.float .f64 (besideN x true)) ∧ w' = w := by
  have h1 := run_bits
  have h2 := run_frombits
  go_enter Ybad.func20, Ybad.ntmps20
  go_wp2
  go_ret
  exact ⟨ret_float rfl, rfl⟩
set_option maxHeartbeats 400000 in
theorem beside_no (x : Nat) (w : World) :
    Calls Ybad.prog 20 #[.float .f64 x, .bool false] w fun e w' => e = .returned (.float .f64 (besideN x false)) ∧ w' = w := by
  have h1 := run_bits
  have h2 := run_frombits
  go_enter Ybad.func20, Ybad.ntmps20
  go_wp2
  go_ret
  exact ⟨ret_float rfl, rfl⟩

theorem beside_any (x : Nat) (away : Bool) (w : World) :
    Calls Ybad.prog 20 #[.float .f64 x, .bool away] w fun e w' => e = .returned (.float .f64 (besideN x away)) ∧ w' = w := by
  cases away
  · exact beside_no x w
  · exact beside_yes x w

/-- What twoSum hands back, up to the NaNs' bits. -/
def swapB (a b : Option Nat) : Bool := ord (absO a) (absO b) == some .lt
def sumO (a b : Option Nat) : Option Nat := if swapB a b then plus b a else plus a b
def errO (a b : Option Nat) : Option Nat := if swapB a b then minus a (minus (plus b a) b) else minus b (minus (plus a b) a)

theorem swap_is (a b : Nat) : (FloatKind.f64.format.order (a % 9223372036854775808) (b % 9223372036854775808) == some .lt) = swapB (ab a) (ab b) := by
  unfold swapB; rw [order_is, abs_ab, abs_ab]

set_option maxHeartbeats 400000 in
theorem twoSum_walk (a b : Nat) (w : World) (ha : Fit a) (hb : Fit b) :
    Calls Ybad.prog 19 #[.float .f64 a, .float .f64 b] w fun e w' => ∃ s r n, e = .returned (.tuple #[.float .f64 s, .float .f64 r]) ∧ Fit s ∧ Fit r ∧ ab s = sumO (ab a) (ab b) ∧ ab r = errO (ab a) (ab b) ∧ w' = w.drewN n := by
  have h1 := @run_add Ybad.prog
  have h2 := @run_sub Ybad.prog
  have hs := swap_is a b
  cases hsw : swapB (ab a) (ab b) with
  | true =>
    rw [hsw] at hs
    go_enter Ybad.func19, Ybad.ntmps19
    go_wp2_with (go_at_call 21; refine (abs_walk _ _ (by assumption)).mono ?_; rintro e w' ⟨rfl, rfl⟩)
    go_ret2
    exact ⟨_, _, _, rfl, addR_lt _ _ _, subR_lt _ _ _, by rw [addR_ab, sumO, hsw]; rfl, by rw [subR_ab, subR_ab, addR_ab, errO, hsw]; rfl, rfl⟩
  | false =>
    rw [hsw] at hs
    go_enter Ybad.func19, Ybad.ntmps19
    go_wp2_with (go_at_call 21; refine (abs_walk _ _ (by assumption)).mono ?_; rintro e w' ⟨rfl, rfl⟩)
    go_ret2
    exact ⟨_, _, _, rfl, addR_lt _ _ _, subR_lt _ _ _, by rw [addR_ab, sumO, hsw]; rfl, by rw [subR_ab, subR_ab, addR_ab, errO, hsw]; rfl, rfl⟩


def above (a b : Option Nat) : Option Nat :=
  if ord (errO a b) (some 0) == some .gt then (sumO a b).bind fun x => ab (besideN x (ord (some x) (some 0) == some .gt)) else sumO a b
def addDown (a b : Option Nat) : Option Nat :=
  if ord (errO a b) (some 0) == some .lt then (sumO a b).bind fun x => ab (besideN x (ord (some x) (some 0) == some .lt)) else sumO a b

theorem ab_zero : ab 0 = some 0 := by decide

/-- A greater or a smaller error: then the sum is a number. -/
theorem sum_of_err {a b : Option Nat} {o : Ordering} (h : (ord (errO a b) (some 0) == some o) = true) : ∃ x, sumO a b = some x := by
  cases hs : sumO a b with
  | some x => exact ⟨x, rfl⟩
  | none =>
    exfalso
    unfold sumO at hs
    unfold errO at h
    split at hs
    · rename_i hc; rw [if_pos hc, hs] at h; simp [minus, ord] at h
    · rename_i hc; rw [if_neg hc, hs] at h; simp [minus, ord] at h

set_option maxHeartbeats 400000 in
theorem above_walk (a b : Nat) (w : World) (ha : Fit a) (hb : Fit b) :
    Calls Ybad.prog 13 #[.float .f64 a, .float .f64 b] w fun e w' => ∃ r n, e = .returned (.float .f64 r) ∧ Fit r ∧ ab r = above (ab a) (ab b) ∧ w' = w.drewN n := by
  go_enter Ybad.func13, Ybad.ntmps13
  go_wp2_with fail
  refine (twoSum_walk a b _ ha hb).mono ?_
  rintro e w' ⟨s, r, n, rfl, hs, hr, es, er, rfl⟩
  have ho := order_is r 0
  have hz := order_is s 0
  rw [er, ab_zero] at ho
  rw [es, ab_zero] at hz
  cases hc : (ord (errO (ab a) (ab b)) (some 0) == some .gt) with
  | true =>
    have hc' : (FloatKind.f64.format.order r 0 == some .gt) = true := by rw [ho]; exact hc
    clear ho hz
    have HS : Hid (ab s = sumO (ab a) (ab b)) := es
    have HR : Hid (ab r = errO (ab a) (ab b)) := er
    have HC : Hid ((ord (errO (ab a) (ab b)) (some 0) == some .gt) = true) := hc
    clear es er hc
    go_wp2_with (go_at_call 20; refine (beside_any _ _ _).mono ?_; rintro e w' ⟨rfl, rfl⟩)
    go_ret
    obtain ⟨x, hx⟩ := sum_of_err HC.out
    obtain ⟨e1, _⟩ := ab_some (HS.out.trans hx)
    subst e1
    refine ⟨_, _, rfl, beside_fit _ _, ?_, rfl⟩
    rw [above, HC.out, hx, order_is, ab_zero, HS.out, hx]; rfl
  | false =>
    have hc' : (FloatKind.f64.format.order r 0 == some .gt) = false := by rw [ho]; exact hc
    clear ho hz
    have HS : Hid (ab s = sumO (ab a) (ab b)) := es
    have HC : Hid ((ord (errO (ab a) (ab b)) (some 0) == some .gt) = false) := hc
    clear es er hc
    go_wp2_with fail
    go_ret
    refine ⟨_, _, rfl, hs, ?_, rfl⟩
    rw [above, HC.out, HS.out]; rfl

set_option maxHeartbeats 400000 in
theorem addDown_walk (a b : Nat) (w : World) (ha : Fit a) (hb : Fit b) :
    Calls Ybad.prog 18 #[.float .f64 a, .float .f64 b] w fun e w' => ∃ r n, e = .returned (.float .f64 r) ∧ Fit r ∧ ab r = addDown (ab a) (ab b) ∧ w' = w.drewN n := by
  go_enter Ybad.func18, Ybad.ntmps18
  go_wp2_with fail
  refine (twoSum_walk a b _ ha hb).mono ?_
  rintro e w' ⟨s, r, n, rfl, hs, hr, es, er, rfl⟩
  have ho := order_is r 0
  rw [er, ab_zero] at ho
  cases hc : (ord (errO (ab a) (ab b)) (some 0) == some .lt) with
  | true =>
    have hc' : (FloatKind.f64.format.order r 0 == some .lt) = true := by rw [ho]; exact hc
    clear ho
    have HS : Hid (ab s = sumO (ab a) (ab b)) := es
    have HC : Hid ((ord (errO (ab a) (ab b)) (some 0) == some .lt) = true) := hc
    clear es er hc
    go_wp2_with (go_at_call 20; refine (beside_any _ _ _).mono ?_; rintro e w' ⟨rfl, rfl⟩)
    go_ret
    obtain ⟨x, hx⟩ := sum_of_err HC.out
    obtain ⟨e1, _⟩ := ab_some (HS.out.trans hx)
    subst e1
    refine ⟨_, _, rfl, beside_fit _ _, ?_, rfl⟩
    rw [addDown, HC.out, hx, order_is, ab_zero, HS.out, hx]; rfl
  | false =>
    have hc' : (FloatKind.f64.format.order r 0 == some .lt) = false := by rw [ho]; exact hc
    clear ho
    have HS : Hid (ab s = sumO (ab a) (ab b)) := es
    have HC : Hid ((ord (errO (ab a) (ab b)) (some 0) == some .lt) = false) := hc
    clear es er hc
    go_wp2_with fail
    go_ret
    refine ⟨_, _, rfl, hs, ?_, rfl⟩
    rw [addDown, HC.out, HS.out]; rfl


def exactB (a b : Option Nat) : Bool := ord (minus (plus a b) a) b == some .eq && ord (minus (plus a b) b) a == some .eq
def addUp (a b : Option Nat) : Option Nat := if exactB a b then plus a b else above a b

theorem ex_one (w w1 : World) (a b : Nat) : FloatKind.f64.format.order (subR w1 (addR w a b) a) b = ord (minus (plus (ab a) (ab b)) (ab a)) (ab b) := by
  rw [order_is, subR_ab, addR_ab]
theorem ex_two (w w1 : World) (a b : Nat) : FloatKind.f64.format.order (subR w1 (addR w a b) b) a = ord (minus (plus (ab a) (ab b)) (ab b)) (ab a) := by
  rw [order_is, subR_ab, addR_ab]
theorem ex_yes {w w1 w2 : World} {a b : Nat} (h1 : FloatKind.f64.format.order (subR w1 (addR w a b) a) b = some .eq) (h2 : (FloatKind.f64.format.order (subR w2 (addR w a b) b) a == some .eq) = true) :
    addUp (ab a) (ab b) = plus (ab a) (ab b) := by
  rw [ex_one] at h1
  rw [ex_two] at h2
  unfold addUp exactB
  rw [h1, h2]; rfl
theorem ex_no2 {w w2 : World} {a b : Nat} (h2 : (FloatKind.f64.format.order (subR w2 (addR w a b) b) a == some .eq) = false) :
    addUp (ab a) (ab b) = above (ab a) (ab b) := by
  rw [ex_two] at h2
  unfold addUp exactB
  rw [h2, Bool.and_false]; rfl
theorem ex_no1 {w w1 : World} {a b : Nat} (h1 : ¬ FloatKind.f64.format.order (subR w1 (addR w a b) a) b = some .eq) :
    addUp (ab a) (ab b) = above (ab a) (ab b) := by
  rw [ex_one] at h1
  unfold addUp exactB
  rw [beq_eq_false_iff_ne.2 h1, Bool.false_and]; rfl

set_option maxHeartbeats 400000 in
theorem addUp_walk (a b : Nat) (w : World) (ha : Fit a) (hb : Fit b) :
    Calls Ybad.prog 9 #[.float .f64 a, .float .f64 b] w fun e w' => ∃ r n, e = .returned (.float .f64 r) ∧ Fit r ∧ ab r = addUp (ab a) (ab b) ∧ w' = w.drewN n := by
  have h1 := @run_add Ybad.prog
  have h2 := @run_sub Ybad.prog
  go_enter Ybad.func9, Ybad.ntmps9
  go_wp2_with (go_at_call 13; refine (above_walk _ _ _ (by assumption) (by assumption)).mono ?_; rintro e w' ⟨r, n, rfl, hr, er, rfl⟩)
  · go_ret
    exact ⟨_, _, rfl, addR_lt _ _ _, by rw [ex_yes ‹_› ‹_›, addR_ab], rfl⟩
  · go_ret
    exact ⟨_, _, rfl, hr, by rw [ex_no2 ‹_›, er], rfl⟩
  · go_ret
    exact ⟨_, _, rfl, hr, by rw [ex_no1 ‹_›, er], rfl⟩

set_option maxHeartbeats 400000 in
theorem boundOf_walk (a b : Nat) (w : World) (ha : Fit a) (hb : Fit b) :
    Calls Ybad.prog 11 #[.float .f64 a, .float .f64 b] w fun e w' => ∃ r n, e = .returned (.float .f64 r) ∧ Fit r ∧ ab r = addUp (ab a) (ab b) ∧ w' = w.drewN n := by
  go_enter Ybad.func11, Ybad.ntmps11
  go_wp2_with (go_at_call 9; refine (addUp_walk _ _ _ (by assumption) (by assumption)).mono ?_; rintro e w' ⟨r, n, rfl, hr, er, rfl⟩)
  go_ret
  exact ⟨_, _, rfl, hr, er, rfl⟩

def lee (t s l : Option Nat) : Option Nat := addDown (addDown l (negO t)) (negO s)

set_option maxHeartbeats 400000 in
theorem leeway_walk (t s l : Nat) (w : World) (ht : Fit t) (hs : Fit s) (hl : Fit l) :
    Calls Ybad.prog 12 #[.float .f64 t, .float .f64 s, .float .f64 l] w fun e w' => ∃ r n, e = .returned (.float .f64 r) ∧ Fit r ∧ ab r = lee (ab t) (ab s) (ab l) ∧ w' = w.drewN n := by
  have hn : ∀ (x : Nat) (w : World), (Op.unary .neg (.float .f64 x)).run Ybad.prog w = .ok (.float .f64 (Op.negFloat .f64 x)) w := fun _ _ => rfl
  go_enter Ybad.func12, Ybad.ntmps12
  go_wp2_with fail
  refine (addDown_walk l (Op.negFloat .f64 t) _ hl (neg_fit ht)).mono ?_
  rintro e w' ⟨r, n, rfl, hr, er, rfl⟩
  have HR : Hid (ab r = addDown (ab l) (ab (Op.negFloat .f64 t))) := er
  clear er
  go_wp2_with fail
  refine (addDown_walk r (Op.negFloat .f64 s) _ hr (neg_fit hs)).mono ?_
  rintro e w' ⟨r2, n2, rfl, hr2, er2, rfl⟩
  go_wp2_with fail
  go_ret
  exact ⟨_, _, rfl, hr2, by rw [er2, HR.out, neg_ab, neg_ab]; rfl, rfl⟩

end Go.Proofs.YbulkbuheDoor
