/-
  Floats of 64 bits with the NaNs' bits left open: what '+' and '-' give on the operands' bits, read up to the NaNs' own bits ('ab').
-/
import Derived.WalkKit
import Derived.WalkLawsBesides
import Derived.Deep.Draws
namespace Go.Proofs.Ybulkbuhe.Fl
open Ieee

def nanB (x : Nat) : Bool := (double.read x).isNaN
/-- The bits, the NaNs all one. -/
def ab (x : Nat) : Option Nat := if nanB x then none else some x

theorem ab_nan {x : Nat} (h : nanB x = true) : ab x = none := by simp [ab, h]
theorem ab_num {x : Nat} (h : nanB x = false) : ab x = some x := by simp [ab, h]
theorem ab_some {x r : Nat} (h : ab x = some r) : r = x ∧ nanB x = false := by
  unfold ab at h
  split at h
  · cases h
  · rename_i hn; exact ⟨(Option.some.inj h).symm, by simpa using hn⟩
theorem ab_none {x : Nat} (h : ab x = none) : nanB x = true := by
  unfold ab at h
  split at h
  · rename_i hn; exact hn
  · cases h

theorem nanB_iff (x : Nat) : nanB x = decide (9218868437227405312 < x % 9223372036854775808) := by
  have hs : double.signWeight = 9223372036854775808 := by decide
  have hi : double.infRung = 9218868437227405312 := by decide
  have hb : double.binade = 4503599627370496 := by decide
  unfold nanB Format.read
  simp only [hs, hi, hb]
  split
  · rename_i h; simp [Datum.isNaN]; omega
  · split
    · rename_i h; simp [Datum.isNaN]; omega
    · split
      · rename_i h; simp [Datum.isNaN]; omega
      · simp [Datum.isNaN]; omega

theorem read_nan {x : Nat} (h : nanB x = true) : ∃ s t, double.read x = .nan s t := by
  unfold nanB Datum.isNaN at h
  split at h
  · exact ⟨_, _, ‹_›⟩
  · cases h

theorem word_num (neg : Bool) (r : Nat) (h : r ≤ 9218868437227405312) : nanB (double.word neg r) = false := by
  have hs : double.signWeight = 9223372036854775808 := by decide
  rw [nanB_iff]
  unfold Format.word
  rw [hs]
  split
  · simp; omega
  · simp; omega

theorem write_num (d : Datum) (h : d.isNaN = false) : nanB (double.write d) = false := by
  have hi : double.infRung = 9218868437227405312 := by decide
  cases d with
  | nan s t => cases h
  | infinity s => exact word_num _ _ (by rw [hi]; exact Nat.le_refl _)
  | number s m e =>
    show nanB (double.nearest s m e) = false
    unfold Format.nearest
    dsimp only
    split
    · exact word_num _ _ (Nat.zero_le _)
    · refine word_num _ _ ?_
      rw [hi]; exact Nat.min_le_right _ _

theorem sum_num {d e r : Datum} (h : d.sum e = some r) : r.isNaN = false ∧ d.isNaN = false ∧ e.isNaN = false := by
  cases d <;> cases e <;> simp only [Datum.sum] at h
  all_goals first
    | (cases h; done)
    | (cases h; exact ⟨rfl, rfl, rfl⟩)
    | (split at h
       · cases h; exact ⟨rfl, rfl, rfl⟩
       · cases h)

theorem opposite_nan (d : Datum) : d.opposite.isNaN = d.isNaN := by cases d <;> rfl

theorem add_num {x y r : Nat} (h : double.add x y = some r) : nanB r = false ∧ nanB x = false ∧ nanB y = false := by
  unfold Format.add at h
  cases hs : (double.read x).sum (double.read y) with
  | none => rw [hs] at h; cases h
  | some d =>
    rw [hs] at h
    cases h
    obtain ⟨a, b, c⟩ := sum_num hs
    exact ⟨write_num d a, b, c⟩

theorem sub_num {x y r : Nat} (h : double.sub x y = some r) : nanB r = false ∧ nanB x = false ∧ nanB y = false := by
  unfold Format.sub at h
  cases hs : (double.read x).sum (double.read y).opposite with
  | none => rw [hs] at h; cases h
  | some d =>
    rw [hs] at h
    cases h
    obtain ⟨a, b, c⟩ := sum_num hs
    exact ⟨write_num d a, b, by rw [opposite_nan] at c; exact c⟩

/-- '+', '-' and the order up to the NaNs' bits. -/
def plus (a b : Option Nat) : Option Nat := a.bind fun x => b.bind fun y => double.add x y
def minus (a b : Option Nat) : Option Nat := a.bind fun x => b.bind fun y => double.sub x y
def ord (a b : Option Nat) : Option Ordering := a.bind fun x => b.bind fun y => double.order x y

theorem order_nan_left {x y : Nat} (h : nanB x = true) : double.order x y = none := by
  obtain ⟨s, t, e⟩ := read_nan h
  simp [Format.order, e, Datum.order]
theorem order_nan_right {x y : Nat} (h : nanB y = true) : double.order x y = none := by
  obtain ⟨s, t, e⟩ := read_nan h
  unfold Format.order
  rw [e]
  cases double.read x <;> rfl
theorem order_ab (x y : Nat) : double.order x y = ord (ab x) (ab y) := by
  unfold ord
  cases hx : nanB x with
  | true => rw [ab_nan hx, order_nan_left hx]; rfl
  | false =>
    rw [ab_num hx]
    cases hy : nanB y with
    | true => rw [ab_nan hy, order_nan_right hy]; rfl
    | false => rw [ab_num hy]; rfl

theorem order_is (x y : Nat) : FloatKind.f64.format.order x y = ord (ab x) (ab y) := order_ab x y

/-- What the tape gives for a NaN. -/
def drawn (w : World) (x y : Nat) : Nat := Question.cut (.nanBits .f64 x y) (w.tape w.drawn (.nanBits .f64 x y))
theorem drawn_nan (w : World) (x y : Nat) : nanB (drawn w x y) = true := by
  rw [nanB_iff]
  unfold drawn Question.cut
  simp only [decide_eq_true_eq]
  generalize w.tape w.drawn (.nanBits .f64 x y) = t
  generalize t / 2 = u
  rcases Nat.mod_two_eq_zero_or_one t with h | h
  · rw [h]; omega
  · rw [h]; omega
theorem drawn_lt (w : World) (x y : Nat) : drawn w x y < 18446744073709551616 := by
  unfold drawn Question.cut
  simp only
  omega

def addR (w : World) (x y : Nat) : Nat := (double.add x y).getD (drawn w x y)
def addN (x y : Nat) : Nat := if (double.add x y).isSome then 0 else 1
def subR (w : World) (x y : Nat) : Nat := (double.sub x y).getD (drawn w x y)
def subN (x y : Nat) : Nat := if (double.sub x y).isSome then 0 else 1

theorem addR_lt (w : World) (x y : Nat) : addR w x y < 18446744073709551616 := by
  unfold addR
  cases h : double.add x y with
  | none => exact drawn_lt w x y
  | some r => exact double.add_lt h
theorem subR_lt (w : World) (x y : Nat) : subR w x y < 18446744073709551616 := by
  unfold subR
  cases h : double.sub x y with
  | none => exact drawn_lt w x y
  | some r => exact double.sub_lt h

theorem addR_ab (w : World) (x y : Nat) : ab (addR w x y) = plus (ab x) (ab y) := by
  unfold addR plus
  cases h : double.add x y with
  | none =>
    rw [Option.getD_none, ab_nan (drawn_nan w x y)]
    cases hx : nanB x with
    | true => rw [ab_nan hx]; rfl
    | false =>
      rw [ab_num hx]
      cases hy : nanB y with
      | true => rw [ab_nan hy]; rfl
      | false => rw [ab_num hy]; exact h.symm
  | some r =>
    obtain ⟨a, b, c⟩ := add_num h
    rw [Option.getD_some, ab_num a, ab_num b, ab_num c]
    exact h.symm
theorem subR_ab (w : World) (x y : Nat) : ab (subR w x y) = minus (ab x) (ab y) := by
  unfold subR minus
  cases h : double.sub x y with
  | none =>
    rw [Option.getD_none, ab_nan (drawn_nan w x y)]
    cases hx : nanB x with
    | true => rw [ab_nan hx]; rfl
    | false =>
      rw [ab_num hx]
      cases hy : nanB y with
      | true => rw [ab_nan hy]; rfl
      | false => rw [ab_num hy]; exact h.symm
  | some r =>
    obtain ⟨a, b, c⟩ := sub_num h
    rw [Option.getD_some, ab_num a, ab_num b, ab_num c]
    exact h.symm

section
variable {P : Program} (w : World)
theorem run_add (t : TypeId) (x y : Nat) : (binOp .add t (.float .f64 x) (.float .f64 y)).run P w = .ok (.float .f64 (addR w x y)) (w.drewN (addN x y)) := by
  cases h : double.add x y with
  | some r =>
    rw [run_float_arith w .add t .f64 x y r (by show double.add x y = some r; exact h)]
    simp [addR, addN, h, World.drewN_zero]
  | none =>
    have h' : FloatKind.f64.format.add x y = none := h
    simp [binOp, Op.floatArith, h', addR, addN, h, drawn, Question.forced, World.drew_is_drewN]
theorem run_sub (t : TypeId) (x y : Nat) : (binOp .sub t (.float .f64 x) (.float .f64 y)).run P w = .ok (.float .f64 (subR w x y)) (w.drewN (subN x y)) := by
  cases h : double.sub x y with
  | some r =>
    rw [run_float_arith w .sub t .f64 x y r (by show double.sub x y = some r; exact h)]
    simp [subR, subN, h, World.drewN_zero]
  | none =>
    have h' : FloatKind.f64.format.sub x y = none := h
    simp [binOp, Op.floatArith, h', subR, subN, h, drawn, Question.forced, World.drew_is_drewN]
end

section
variable {P : Program} (w : World) (a : Addr) (m : Mode)
theorem run_store_float (k : FloatKind) (b : Nat) : (store a (.float k b) m).run P w = stored P w a (.float k b) m := run_store P w a _ m rfl
end

theorem setCell_drewN (w : World) (a : Addr) (v : Value) (n : Nat) : (w.drewN n).setCell a v = (w.setCell a v).drewN n := rfl
theorem alloc_drewN (w : World) (o : Obj) (n : Nat) : (w.drewN n).alloc o = (w.alloc o).drewN n := rfl

def Fit (x : Nat) : Prop := x < 18446744073709551616

/-- |x|, -x and the neighbour. -/
def absO (a : Option Nat) : Option Nat := a.map fun x => x % 9223372036854775808
theorem abs_ab (x : Nat) : ab (x % 9223372036854775808) = absO (ab x) := by
  have h : nanB (x % 9223372036854775808) = nanB x := by rw [nanB_iff, nanB_iff, Nat.mod_mod]
  unfold ab absO
  rw [h]
  split <;> rfl
def negO (a : Option Nat) : Option Nat := a.map fun x => Op.negFloat .f64 x
theorem neg_mod (x : Nat) : Op.negFloat .f64 x % 9223372036854775808 = x % 9223372036854775808 := by
  show (x ^^^ 2 ^ 63) % 2 ^ 63 = x % 2 ^ 63
  rw [Nat.xor_mod_two_pow, Nat.mod_self, Nat.xor_zero]
theorem neg_ab (x : Nat) : ab (Op.negFloat .f64 x) = negO (ab x) := by
  have h : nanB (Op.negFloat .f64 x) = nanB x := by rw [nanB_iff, nanB_iff, neg_mod]
  unfold ab negO
  rw [h]
  split <;> rfl
theorem neg_fit {x : Nat} (h : Fit x) : Fit (Op.negFloat .f64 x) := by
  show x ^^^ 2 ^ 63 < 2 ^ 64
  exact Nat.xor_lt_two_pow h (by decide)
def besideN (x : Nat) (away : Bool) : Nat := if away then (IntKind.wrap .u64 ((x : Int) + 1)).toNat else (IntKind.wrap .u64 ((x : Int) - 1)).toNat
theorem beside_fit (x : Nat) (away : Bool) : Fit (besideN x away) := by
  have := fun n => IntKind.wrap_u64 n
  unfold Fit besideN
  split <;> (rw [this]; omega)

end Go.Proofs.Ybulkbuhe.Fl
