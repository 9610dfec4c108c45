/-
  Floats of 64 bits as exact whole numbers: what a word stands for, in units of 2^-1074.
-/
import Derived.Test.YbulkbuheFl
import Derived.Laws.FloatArith
namespace Go.Proofs.Ybulkbuhe.Fl
open Ieee

def sg (s : Bool) (a : Nat) : Int := if s then -(a : Int) else (a : Int)
theorem sg_abs (s : Bool) (a : Nat) : (sg s a).natAbs = a := by cases s <;> simp [sg]
theorem signed_sg (s : Bool) (m u : Nat) : signed s m u = sg s (m * 2 ^ u) := by
  unfold signed sg
  rw [Nat.shiftLeft_eq]
theorem sg_mul (s : Bool) (a c : Nat) : sg s (a * c) = sg s a * c := by
  cases s <;> simp [sg, Int.neg_mul]
theorem sg_not (s : Bool) (a : Nat) : sg (!s) a = -sg s a := by
  cases s <;> simp [sg]

/-- The word stands for v units of 2^-1074. -/
def Val (x : Nat) (v : Int) : Prop := ∃ s m k, double.read x = .number s m (-1074 + ((k : Nat) : Int)) ∧ v = sg s (m * 2 ^ k)

theorem cmp_scale (a b : Int) (c : Nat) (hc : 0 < c) : compare (a * c) (b * c) = compare a b := by
  have hc' : (0 : Int) < c := by omega
  show compareOfLessAndEq _ _ = compareOfLessAndEq _ _
  unfold compareOfLessAndEq
  have h1 : a * (c : Int) < b * c ↔ a < b := Int.mul_lt_mul_right hc'
  have h2 : a * (c : Int) = b * c ↔ a = b := Int.mul_eq_mul_right_iff (by omega)
  simp only [h1, h2]

theorem place_lift (i j : Nat) : (-1074 + (i : Int) - min (-1074 + (i : Int)) (-1074 + (j : Int))).toNat = i - min i j := by omega
theorem place_lift' (i j : Nat) : (-1074 + (j : Int) - min (-1074 + (i : Int)) (-1074 + (j : Int))).toNat = j - min i j := by omega
theorem scaled (s : Bool) (m i k : Nat) (h : k ≤ i) : sg s (m * 2 ^ i) = sg s (m * 2 ^ (i - k)) * ((2 ^ k : Nat) : Int) := by
  rw [← sg_mul, Nat.mul_assoc, ← Nat.pow_add, Nat.sub_add_cancel h]

theorem order_val {x y : Nat} {u v : Int} (hx : Val x u) (hy : Val y v) : double.order x y = some (compare u v) := by
  obtain ⟨s, m, i, rx, rfl⟩ := hx
  obtain ⟨t, n, j, ry, rfl⟩ := hy
  unfold Format.order
  rw [rx, ry]
  simp only [Datum.order]
  rw [place_lift, place_lift', signed_sg, signed_sg, scaled s m i (min i j) (Nat.min_le_left _ _), scaled t n j (min i j) (Nat.min_le_right _ _), cmp_scale _ _ _ (Nat.pow_pos (by decide))]

theorem sg_total (t : Int) (b : Bool) (c : Nat) : sg (if t = 0 then b else decide (t < 0)) (t.natAbs * c) = t * c := by
  rw [sg_mul]
  congr 1
  by_cases h : t = 0
  · subst h; rw [if_pos rfl]; cases b <;> rfl
  · rw [if_neg h]
    by_cases hl : t < 0
    · simp [sg, hl]; omega
    · simp [sg, hl]; omega

theorem sum_val {d e : Datum} {s t : Bool} {m n i j : Nat} (hd : d = .number s m (-1074 + (i : Int))) (he : e = .number t n (-1074 + (j : Int))) :
    ∃ neg mag k, d.sum e = some (.number neg mag (-1074 + ((k : Nat) : Int))) ∧ sg neg (mag * 2 ^ k) = sg s (m * 2 ^ i) + sg t (n * 2 ^ j) := by
  subst hd he
  simp only [Datum.sum]
  rw [place_lift, place_lift', signed_sg, signed_sg]
  refine ⟨_, _, min i j, congrArg some (congrArg _ (by omega)), ?_⟩
  rw [sg_total, scaled s m i (min i j) (Nat.min_le_left _ _), scaled t n j (min i j) (Nat.min_le_right _ _), Int.add_mul]

theorem log2_mul_pow (m c : Nat) (h : m ≠ 0) : (m * 2 ^ c).log2 = m.log2 + c := by
  have hp : 0 < 2 ^ c := Nat.pow_pos (by decide)
  have hne : m * 2 ^ c ≠ 0 := Nat.mul_ne_zero h (by omega)
  apply Nat.le_antisymm
  · apply Nat.le_of_lt_succ
    rw [Nat.log2_lt hne, Nat.succ_eq_add_one, show m.log2 + c + 1 = m.log2 + 1 + c by omega, Nat.pow_add]
    exact Nat.mul_lt_mul_of_pos_right Nat.lt_log2_self hp
  · rw [Nat.le_log2 hne, Nat.pow_add]
    exact Nat.mul_le_mul_right _ (Nat.log2_self_le h)

theorem cut_none (neg : Bool) (n : Nat) : Toward.even.cut neg n 0 = n := by
  simp [Toward.cut, Nat.mod_one]
theorem cut_exact (neg : Bool) (q d : Nat) (h : q ≠ 0) (way : Toward) : way.cut neg (q * 2 ^ d) d = q := by
  have hl : d ≤ (q * 2 ^ d).log2 + 2 := by rw [log2_mul_pow q d h]; omega
  have hp : 0 < 2 ^ d := Nat.pow_pos (by decide)
  unfold Toward.cut
  simp only [Nat.min_eq_left hl, Nat.one_shiftLeft, Nat.mul_mod_left, Nat.mul_div_cancel _ hp]
  cases way
  · simp
  · simp
  · simp
  · simp

/-- The nearest word to a whole number that the format has. -/
theorem nearest_int (neg : Bool) (mag c b N : Nat) (h : mag * 2 ^ c = N * 2 ^ b) (h0 : mag ≠ 0) (hN : N < 9007199254740992) (hM : N ≠ 0) :
    double.nearest neg mag ((c : Int) - b) = double.word neg ((N.log2 + 1022) * 4503599627370496 + N * 2 ^ (52 - N.log2)) := by
  have hL : N.log2 < 53 := (Nat.log2_lt hM).2 hN
  have hl : mag.log2 + c = N.log2 + b := by rw [← log2_mul_pow mag c h0, ← log2_mul_pow N b hM, h]
  have hlow : 2 ^ N.log2 ≤ N := Nat.log2_self_le hM
  have hhigh : N < 2 ^ (N.log2 + 1) := Nat.lt_log2_self
  have k1 : N * 2 ^ (52 - N.log2) < 9007199254740992 := by
    have : N * 2 ^ (52 - N.log2) < 2 ^ (N.log2 + 1) * 2 ^ (52 - N.log2) := Nat.mul_lt_mul_of_pos_right hhigh (Nat.pow_pos (by decide))
    rw [← Nat.pow_add, show N.log2 + 1 + (52 - N.log2) = 53 by omega] at this
    exact this
  have hlp : double.leastPlace = -1074 := by decide
  have hfb : double.fractionBits = 52 := rfl
  have hbi : double.binade = 4503599627370496 := by decide
  have hin : double.infRung = 9218868437227405312 := by decide
  unfold Format.nearest
  rw [if_neg h0]
  simp only [hlp, hfb, hbi, hin]
  have e1 : max ((c : Int) - b + (mag.log2 : Int) - ((52 : Nat) : Int)) (-1074) = (N.log2 : Int) - 52 := by omega
  rw [e1]
  have e2 : ((N.log2 : Int) - 52 - -1074).toNat = N.log2 + 1022 := by omega
  rw [e2]
  have key : Toward.even.cut neg (mag <<< ((c : Int) - b - ((N.log2 : Int) - 52)).toNat) ((N.log2 : Int) - 52 - ((c : Int) - b)).toNat = N * 2 ^ (52 - N.log2) := by
    rw [Nat.shiftLeft_eq]
    by_cases hc : N.log2 + b ≤ c + 52
    · have d0 : ((N.log2 : Int) - 52 - ((c : Int) - b)).toNat = 0 := by omega
      rw [d0, cut_none]
      have e3 : ((c : Int) - b - ((N.log2 : Int) - 52)).toNat = c + 52 - (N.log2 + b) := by omega
      rw [e3]
      refine Nat.eq_of_mul_eq_mul_right (Nat.pow_pos (n := b) (show 0 < 2 by decide)) ?_
      rw [Nat.mul_assoc, ← Nat.pow_add, show c + 52 - (N.log2 + b) + b = c + (52 - N.log2) by omega, Nat.pow_add, ← Nat.mul_assoc, h, Nat.mul_assoc, Nat.mul_assoc, Nat.mul_comm (2 ^ b)]
    · have e3 : ((c : Int) - b - ((N.log2 : Int) - 52)).toNat = 0 := by omega
      have e4 : ((N.log2 : Int) - 52 - ((c : Int) - b)).toNat = N.log2 + b - (c + 52) := by omega
      rw [e3, e4, Nat.pow_zero, Nat.mul_one]
      have e5 : mag = N * 2 ^ (52 - N.log2) * 2 ^ (N.log2 + b - (c + 52)) := by
        refine Nat.eq_of_mul_eq_mul_right (Nat.pow_pos (n := c) (show 0 < 2 by decide)) ?_
        rw [h, Nat.mul_assoc, Nat.mul_assoc, ← Nat.pow_add, ← Nat.pow_add]
        congr 2
        omega
      conv => lhs; rw [e5]
      exact cut_exact _ _ _ (Nat.mul_ne_zero hM (Nat.ne_of_gt (Nat.pow_pos (by decide)))) _
  rw [key]
  congr 1
  refine Nat.min_eq_left ?_
  omega

theorem read_word (neg : Bool) (r : Nat) (h1 : 4503599627370496 ≤ r) (h2 : r < 9218868437227405312) :
    double.read (double.word neg r) = .number neg (4503599627370496 + r % 4503599627370496) (-1074 + ((r / 4503599627370496 - 1 : Nat) : Int)) := by
  have hs : double.signWeight = 9223372036854775808 := by decide
  have hi : double.infRung = 9218868437227405312 := by decide
  have hb : double.binade = 4503599627370496 := by decide
  have hlp : double.leastPlace = -1074 := by decide
  unfold Format.read Format.word
  simp only [hs, hi, hb, hlp]
  cases neg
  · have e1 : r % 9223372036854775808 = r := Nat.mod_eq_of_lt (by omega)
    have e2 : r / 9223372036854775808 = 0 := by omega
    simp only [Bool.false_eq_true, if_false, e1, e2]
    rw [if_neg (by omega), if_pos h2]; rfl
  · have e1 : (9223372036854775808 + r) % 9223372036854775808 = r := by omega
    have e2 : (9223372036854775808 + r) / 9223372036854775808 = 1 := by omega
    simp only [if_true, e1, e2]
    rw [if_neg (by omega), if_pos h2]; rfl
theorem read_small (neg : Bool) (r : Nat) (h1 : r < 4503599627370496) :
    double.read (double.word neg r) = .number neg r (-1074 + ((0 : Nat) : Int)) := by
  have hs : double.signWeight = 9223372036854775808 := by decide
  have hi : double.infRung = 9218868437227405312 := by decide
  have hb : double.binade = 4503599627370496 := by decide
  have hlp : double.leastPlace = -1074 := by decide
  unfold Format.read Format.word
  simp only [hs, hi, hb, hlp]
  cases neg
  · have e1 : r % 9223372036854775808 = r := Nat.mod_eq_of_lt (by omega)
    have e2 : r / 9223372036854775808 = 0 := by omega
    simp only [Bool.false_eq_true, if_false, e1, e2]
    rw [if_pos h1]; rfl
  · have e1 : (9223372036854775808 + r) % 9223372036854775808 = r := by omega
    have e2 : (9223372036854775808 + r) / 9223372036854775808 = 1 := by omega
    simp only [if_true, e1, e2]
    rw [if_pos h1]; rfl

@[irreducible] def E : Nat := 1074
theorem E_eq : E = 1074 := by unfold E; rfl
/-- 2^1074 units: one. -/
def U : Nat := 2 ^ E
theorem U_pow (a b : Nat) (h : a + b = 1074) : 2 ^ a * 2 ^ b = U := by
  have h' : a + b = E := by rw [E_eq]; exact h
  rw [← Nat.pow_add, h', U]
theorem U_sq : 2 ^ (E + E) = U * U := Nat.pow_add 2 E E
theorem U_pos : 0 < U := Nat.pow_pos (by decide)
/-- The word stands for the whole number n. -/
def I (x : Nat) (n : Int) : Prop := Val x (n * (U : Int))
def Small (n : Int) : Prop := n.natAbs < 9007199254740992

theorem zero_I (s : Bool) : I (double.word s 0) 0 := by
  refine ⟨s, 0, 0, read_small s 0 (by decide), ?_⟩
  rw [Int.zero_mul, Nat.zero_mul]
  cases s <;> rfl

theorem nearest_I (neg : Bool) (mag c b : Nat) (n : Int) (h : sg neg (mag * 2 ^ c) = n * ((2 ^ b : Nat) : Int)) (hn : Small n) : I (double.nearest neg mag ((c : Int) - b)) n := by
  have hp : 0 < 2 ^ b := Nat.pow_pos (by decide)
  have hpc : 0 < 2 ^ c := Nat.pow_pos (by decide)
  have ha : mag * 2 ^ c = n.natAbs * 2 ^ b := by
    have := congrArg Int.natAbs h
    rw [sg_abs, Int.natAbs_mul, Int.natAbs_natCast] at this
    exact this
  by_cases h0 : mag = 0
  · subst h0
    rw [Nat.zero_mul] at ha
    have : n.natAbs = 0 := by
      rcases Nat.mul_eq_zero.1 ha.symm with h | h
      · exact h
      · omega
    have hn0 : n = 0 := by omega
    subst hn0
    unfold Format.nearest
    rw [if_pos rfl]
    exact zero_I neg
  · have hM : n.natAbs ≠ 0 := by
      intro e
      rw [e, Nat.zero_mul] at ha
      rcases Nat.mul_eq_zero.1 ha with h | h
      · exact h0 h
      · omega
    rw [nearest_int neg mag c b n.natAbs ha h0 hn hM]
    have hL : n.natAbs.log2 < 53 := (Nat.log2_lt hM).2 hn
    have hlow : 2 ^ n.natAbs.log2 ≤ n.natAbs := Nat.log2_self_le hM
    have hhigh : n.natAbs < 2 ^ (n.natAbs.log2 + 1) := Nat.lt_log2_self
    have k1 : n.natAbs * 2 ^ (52 - n.natAbs.log2) < 9007199254740992 := by
      have : n.natAbs * 2 ^ (52 - n.natAbs.log2) < 2 ^ (n.natAbs.log2 + 1) * 2 ^ (52 - n.natAbs.log2) := Nat.mul_lt_mul_of_pos_right hhigh (Nat.pow_pos (by decide))
      rw [← Nat.pow_add, show n.natAbs.log2 + 1 + (52 - n.natAbs.log2) = 53 by omega] at this
      exact this
    have k2 : 4503599627370496 ≤ n.natAbs * 2 ^ (52 - n.natAbs.log2) := by
      have : 2 ^ n.natAbs.log2 * 2 ^ (52 - n.natAbs.log2) ≤ n.natAbs * 2 ^ (52 - n.natAbs.log2) := Nat.mul_le_mul_right _ hlow
      rw [← Nat.pow_add, show n.natAbs.log2 + (52 - n.natAbs.log2) = 52 by omega] at this
      exact this
    have hk : ∃ K, n.natAbs * 2 ^ (52 - n.natAbs.log2) = K := ⟨_, rfl⟩
    obtain ⟨K, hK⟩ := hk
    rw [hK] at k1 k2 ⊢
    have hl : ∃ l, n.natAbs.log2 = l := ⟨_, rfl⟩
    obtain ⟨l, hl'⟩ := hl
    rw [hl'] at hL hK ⊢
    refine ⟨neg, K, l + 1022, ?_, ?_⟩
    · rw [read_word _ _ (by omega) (by omega)]
      have f1 : 4503599627370496 + ((l + 1022) * 4503599627370496 + K) % 4503599627370496 = K := by omega
      have f2 : ((l + 1022) * 4503599627370496 + K) / 4503599627370496 - 1 = l + 1022 := by omega
      rw [f1, f2]
    · have hs : n * (U : Int) = sg neg (n.natAbs * U) := by
        rw [sg_mul]
        congr 1
        have h2 : sg neg mag * ((2 ^ c : Nat) : Int) = n * ((2 ^ b : Nat) : Int) := by rw [← sg_mul]; exact h
        have hpb : (0 : Int) < ((2 ^ b : Nat) : Int) := by exact_mod_cast hp
        have hpc' : (0 : Int) < ((2 ^ c : Nat) : Int) := by exact_mod_cast hpc
        cases neg
        · have : 0 ≤ n := by
            apply Int.le_of_not_gt
            intro hlt
            have h3 : n * ((2 ^ b : Nat) : Int) < 0 := Int.mul_neg_of_neg_of_pos hlt hpb
            have h4 : 0 ≤ sg false mag * ((2 ^ c : Nat) : Int) := Int.mul_nonneg (by simp [sg]) (by omega)
            omega
          simp [sg]; omega
        · have : n ≤ 0 := by
            apply Int.le_of_not_gt
            intro hlt
            have h3 : 0 < n * ((2 ^ b : Nat) : Int) := Int.mul_pos hlt hpb
            have h4 : sg true mag * ((2 ^ c : Nat) : Int) ≤ 0 := by
              rw [← sg_mul]; simp only [sg, if_true]; omega
            omega
          simp [sg]; omega
      rw [hs, ← hK, Nat.mul_assoc, U_pow _ _ (by omega)]

theorem write_I {neg : Bool} {mag k : Nat} {n : Int} (h : sg neg (mag * 2 ^ k) = n * (U : Int)) (hn : Small n) : I (double.write (.number neg mag (-1074 + (k : Int)))) n := by
  show I (double.nearest neg mag (-1074 + (k : Int))) n
  rw [show (-1074 + (k : Int)) = (k : Int) - (E : Int) by rw [E_eq]; omega]
  exact nearest_I neg mag k E n h hn

theorem add_I {x y : Nat} {a b : Int} (hx : I x a) (hy : I y b) (hs : Small (a + b)) : ∃ r, double.add x y = some r ∧ I r (a + b) := by
  obtain ⟨s, m, i, rx, ex⟩ := hx
  obtain ⟨t, n, j, ry, ey⟩ := hy
  obtain ⟨neg, mag, k, e, hv⟩ := sum_val rx ry
  unfold Format.add
  rw [e]
  refine ⟨_, rfl, write_I ?_ hs⟩
  rw [hv, ← ex, ← ey, Int.add_mul]
theorem sub_I {x y : Nat} {a b : Int} (hx : I x a) (hy : I y b) (hs : Small (a - b)) : ∃ r, double.sub x y = some r ∧ I r (a - b) := by
  obtain ⟨s, m, i, rx, ex⟩ := hx
  obtain ⟨t, n, j, ry, ey⟩ := hy
  have ry' : (double.read y).opposite = .number (!t) n (-1074 + (j : Int)) := by rw [ry]; rfl
  obtain ⟨neg, mag, k, e, hv⟩ := sum_val rx ry'
  unfold Format.sub
  rw [e]
  refine ⟨_, rfl, write_I ?_ hs⟩
  rw [hv, sg_not, ← ex, ← ey, Int.sub_mul]; rfl
theorem mul_I {x y : Nat} {a b : Int} (hx : I x a) (hy : I y b) (hs : Small (a * b)) : ∃ r, double.mul x y = some r ∧ I r (a * b) := by
  obtain ⟨s, m, i, rx, ex⟩ := hx
  obtain ⟨t, n, j, ry, ey⟩ := hy
  unfold Format.mul
  rw [rx, ry]
  refine ⟨_, rfl, ?_⟩
  show I (double.nearest (s ^^ t) (m * n) (-1074 + (i : Int) + (-1074 + (j : Int)))) (a * b)
  rw [show (-1074 + (i : Int) + (-1074 + (j : Int))) = ((i + j : Nat) : Int) - ((E + E : Nat) : Int) by rw [E_eq]; omega]
  refine nearest_I _ _ _ _ _ ?_ hs
  have e1 : sg (s ^^ t) (m * n * 2 ^ (i + j)) = sg s (m * 2 ^ i) * sg t (n * 2 ^ j) := by
    have : m * n * 2 ^ (i + j) = (m * 2 ^ i) * (n * 2 ^ j) := by
      rw [Nat.pow_add]
      simp only [Nat.mul_assoc, Nat.mul_left_comm]
    rw [this]
    generalize m * 2 ^ i = p
    generalize n * 2 ^ j = q
    cases s <;> cases t <;> simp [sg, Int.neg_mul, Int.mul_neg]
  rw [e1, ← ex, ← ey, U_sq, Int.natCast_mul]
  simp only [Int.mul_assoc, Int.mul_left_comm]

theorem order_I {x y : Nat} {a b : Int} (hx : I x a) (hy : I y b) : double.order x y = some (compare a b) := by
  rw [order_val hx hy, cmp_scale _ _ _ U_pos]

theorem I_num {x : Nat} {a : Int} (h : I x a) : ab x = some x := by
  obtain ⟨s, m, i, rx, ex⟩ := h
  exact ab_num (by unfold nanB; rw [rx]; rfl)

theorem ofInt_I (n : Int) (h : Small n) : I (floatOfInt .f64 n) n := by
  show I (double.nearest (decide (n < 0)) n.natAbs 0) n
  have := nearest_I (decide (n < 0)) n.natAbs 0 0 n (by rw [sg_mul]; congr 1; by_cases h : n < 0 <;> simp [sg, h] <;> omega) h
  exact this

theorem neg_I {x : Nat} {a : Int} (hf : Fit x) (h : I x a) : I (Op.negFloat .f64 x) (-a) := by
  obtain ⟨s, m, i, rx, ex⟩ := h
  refine ⟨!s, m, i, ?_, by rw [sg_not, ← ex, Int.neg_mul]⟩
  have hm := neg_mod x
  have hd : Op.negFloat .f64 x / 9223372036854775808 % 2 = 1 - x / 9223372036854775808 % 2 := by
    show (x ^^^ 2 ^ 63) / 2 ^ 63 % 2 = _
    rw [← Nat.shiftRight_eq_div_pow, Nat.shiftRight_xor_distrib, Nat.shiftRight_eq_div_pow, Nat.shiftRight_eq_div_pow, Nat.div_self (by decide)]
    have hq : x / 2 ^ 63 = 0 ∨ x / 2 ^ 63 = 1 := by
      unfold Fit at hf; omega
    rcases hq with h | h
    · rw [h]; rfl
    · rw [h]; rfl
  have hs : double.signWeight = 9223372036854775808 := by decide
  unfold Format.read at rx ⊢
  simp only [hs] at rx ⊢
  rw [hm]
  rw [hd]
  have hb : (1 - x / 9223372036854775808 % 2 == 1) = !(x / 9223372036854775808 % 2 == 1) := by
    rcases Nat.mod_two_eq_zero_or_one (x / 9223372036854775808) with h | h <;> rw [h] <;> rfl
  rw [hb]
  generalize (x / 9223372036854775808 % 2 == 1) = q at rx ⊢
  split at rx
  · rename_i h1; rw [if_pos h1]; injection rx with e1 e2 e3; subst e1 e2; rw [e3]
  · rename_i h1
    rw [if_neg h1]
    split at rx
    · rename_i h2; rw [if_pos h2]; injection rx with e1 e2 e3; subst e1 e2; rw [e3]
    · split at rx <;> cases rx


/-- Sums and differences up to the NaNs' bits, of whole numbers. -/
theorem plus_I {x y : Nat} {a b : Int} (hx : I x a) (hy : I y b) (hs : Small (a + b)) : ∃ r, plus (some x) (some y) = some r ∧ I r (a + b) := add_I hx hy hs
theorem minus_I {x y : Nat} {a b : Int} (hx : I x a) (hy : I y b) (hs : Small (a - b)) : ∃ r, minus (some x) (some y) = some r ∧ I r (a - b) := sub_I hx hy hs
theorem ord_I {x y : Nat} {a b : Int} (hx : I x a) (hy : I y b) : ord (some x) (some y) = some (compare a b) := order_I hx hy
theorem I_zero : I 0 0 := zero_I false

theorem cmp_self (a : Int) : compare a a = Ordering.eq := by
  show compareOfLessAndEq a a = _
  unfold compareOfLessAndEq
  rw [if_neg (Int.lt_irrefl a), if_pos rfl]

/-- The bits of |x|: exponent and significand. -/
def expN (x : Nat) : Nat := if x % 9223372036854775808 / 4503599627370496 = 0 then 1 else x % 9223372036854775808 / 4503599627370496
def mantN (x : Nat) : Nat := if x % 9223372036854775808 / 4503599627370496 = 0 then x % 9223372036854775808 % 4503599627370496 else 4503599627370496 + x % 9223372036854775808 % 4503599627370496

theorem read_mag {x : Nat} {s : Bool} {m : Nat} {e : Int} (h : double.read x = .number s m e) : m = mantN x ∧ e = -1074 + ((expN x - 1 : Nat) : Int) ∧ s = (x / 9223372036854775808 % 2 == 1) ∧ x % 9223372036854775808 < 9218868437227405312 := by
  have hs : double.signWeight = 9223372036854775808 := by decide
  have hi : double.infRung = 9218868437227405312 := by decide
  have hb : double.binade = 4503599627370496 := by decide
  have hlp : double.leastPlace = -1074 := by decide
  unfold Format.read at h
  simp only [hs, hi, hb, hlp] at h
  unfold mantN expN
  split at h
  · rename_i h1
    injection h with e1 e2 e3
    have h0 : x % 9223372036854775808 / 4503599627370496 = 0 := by omega
    rw [if_pos h0, if_pos h0]
    exact ⟨by omega, by omega, e1.symm, by omega⟩
  · rename_i h1
    split at h
    · rename_i h2
      injection h with e1 e2 e3
      have h0 : ¬ x % 9223372036854775808 / 4503599627370496 = 0 := by omega
      rw [if_neg h0, if_neg h0]
      exact ⟨e2.symm, e3.symm, e1.symm, h2⟩
    · split at h <;> cases h

theorem expN_pos (x : Nat) : 1 ≤ expN x := by unfold expN; split <;> omega
theorem mantN_lt (x : Nat) : mantN x < 9007199254740992 := by unfold mantN; split <;> omega

theorem I_mag {x : Nat} {n : Int} (h : I x n) : mantN x * 2 ^ (expN x - 1) = n.natAbs * U := by
  obtain ⟨s, m, k, rx, ex⟩ := h
  obtain ⟨h1, h2, _, _⟩ := read_mag rx
  have hk : k = expN x - 1 := by omega
  subst hk h1
  have := congrArg Int.natAbs ex
  rw [sg_abs, Int.natAbs_mul, Int.natAbs_natCast] at this
  exact this.symm
theorem I_sign {x : Nat} {n : Int} (hf : Fit x) (h : I x n) (hp : 0 < n) : x < 9218868437227405312 := by
  obtain ⟨s, m, k, rx, ex⟩ := h
  obtain ⟨h1, h2, h3, h4⟩ := read_mag rx
  have hup : (0 : Int) < U := by exact_mod_cast U_pos
  cases s with
  | false =>
    have hq : x / 9223372036854775808 % 2 ≠ 1 := by
      intro e; rw [e] at h3; cases h3
    unfold Fit at hf
    omega
  | true =>
    exfalso
    have : 0 < n * (U : Int) := Int.mul_pos hp hup
    rw [ex] at this
    simp only [sg, if_true] at this
    omega

theorem exp_le {x : Nat} {n : Int} (h : I x n) (hs : Small n) : expN x ≤ 1075 := by
  have hm := I_mag h
  apply Nat.le_of_not_lt
  intro hlt
  have hm2 : 4503599627370496 ≤ mantN x := by
    unfold mantN
    unfold expN at hlt
    split
    · rename_i h0; rw [if_pos h0] at hlt; omega
    · omega
  have h1 : 2 ^ 1 * U ≤ 2 ^ (expN x - 1) := by
    have := E_eq
    rw [U, ← Nat.pow_add]
    exact Nat.pow_le_pow_right (by decide) (by omega)
  have h2 : 4503599627370496 * (2 ^ 1 * U) ≤ mantN x * 2 ^ (expN x - 1) := Nat.mul_le_mul hm2 h1
  rw [hm, ← Nat.mul_assoc] at h2
  have h3 : 4503599627370496 * 2 ^ 1 ≤ n.natAbs := Nat.le_of_mul_le_mul_right h2 U_pos
  unfold Small at hs
  omega
theorem exp_ge {x : Nat} {n : Int} (h : I x n) (hn : n ≠ 0) : 1023 ≤ expN x := by
  have hm := I_mag h
  have hlt := mantN_lt x
  have hp := expN_pos x
  apply Nat.le_of_not_lt
  intro hl
  have h1 : mantN x * 2 ^ (expN x - 1) < 9007199254740992 * 2 ^ (expN x - 1) := Nat.mul_lt_mul_of_pos_right hlt (Nat.pow_pos (by decide))
  have h2 : 9007199254740992 * 2 ^ (expN x - 1) ≤ U := by
    have := E_eq
    show 2 ^ 53 * 2 ^ (expN x - 1) ≤ U
    rw [U, ← Nat.pow_add]
    exact Nat.pow_le_pow_right (by decide) (by omega)
  have h3 : U ≤ n.natAbs * U := Nat.le_mul_of_pos_left _ (by omega)
  omega
theorem mant_dvd {x : Nat} {n : Int} (h : I x n) (hs : Small n) : mantN x = n.natAbs * 2 ^ (1075 - expN x) := by
  have hm := I_mag h
  have he := exp_le h hs
  have hp := expN_pos x
  refine Nat.eq_of_mul_eq_mul_right (Nat.pow_pos (n := expN x - 1) (show 0 < 2 by decide)) ?_
  rw [hm, Nat.mul_assoc, U_pow _ _ (by omega)]

/-- The powers of two. -/
theorem pow_low (p : Nat) (h : p < 52) : Val (2 ^ p) ((2 ^ p : Nat) : Int) := by
  have hlt : 2 ^ p < 4503599627370496 := by
    have : 2 ^ p < 2 ^ 52 := Nat.pow_lt_pow_right (by decide) h
    exact this
  refine ⟨false, 2 ^ p, 0, read_small false _ hlt, ?_⟩
  simp [sg]
theorem pow_high (q : Nat) (h1 : 1 ≤ q) (h2 : q < 2047) : Val (q * 4503599627370496) ((2 ^ (q + 51) : Nat) : Int) := by
  have := read_word false (q * 4503599627370496) (by omega) (by omega)
  refine ⟨false, 4503599627370496, q - 1, ?_, ?_⟩
  · rw [show double.word false (q * 4503599627370496) = q * 4503599627370496 from rfl] at this
    rw [this]
    have f1 : 4503599627370496 + q * 4503599627370496 % 4503599627370496 = 4503599627370496 := by omega
    have f2 : q * 4503599627370496 / 4503599627370496 - 1 = q - 1 := by omega
    rw [f1, f2]
  · have : 4503599627370496 * 2 ^ (q - 1) = 2 ^ (q + 51) := by
      show 2 ^ 52 * 2 ^ (q - 1) = _
      rw [← Nat.pow_add]; congr 1; omega
    rw [this]; simp [sg]

/-- A quotient of what is not below zero. -/
theorem word_false (r : Nat) : double.word false r = r := by simp [Format.word]
theorem nearest_nn (mag : Nat) (place : Int) : double.nearest false mag place ≤ 9218868437227405312 := by
  have hi : double.infRung = 9218868437227405312 := by decide
  unfold Format.nearest
  dsimp only
  split
  · rw [word_false]; exact Nat.zero_le _
  · rw [hi, word_false]; exact Nat.min_le_right _ _
theorem read_nn {x : Nat} (h : x ≤ 9218868437227405312) : (∃ m e, double.read x = .number false m e) ∨ double.read x = .infinity false := by
  have hs : double.signWeight = 9223372036854775808 := by decide
  have hi : double.infRung = 9218868437227405312 := by decide
  have hb : double.binade = 4503599627370496 := by decide
  have e1 : x % 9223372036854775808 = x := Nat.mod_eq_of_lt (by omega)
  have e2 : x / 9223372036854775808 = 0 := by omega
  unfold Format.read
  simp only [hs, hi, hb, e1, e2]
  split
  · exact .inl ⟨_, _, rfl⟩
  · split
    · exact .inl ⟨_, _, rfl⟩
    · rw [if_pos (by omega)]; exact .inr rfl
theorem inf_word : double.write (.infinity false) = 9218868437227405312 := by decide
theorem div_nn {x y : Nat} {n : Int} (hx : x ≤ 9218868437227405312) (hf : Fit y) (hy : I y n) (hn : 0 < n) : ∃ q, double.div x y = some q ∧ q ≤ 9218868437227405312 := by
  have hy' := I_sign hf hy hn
  obtain ⟨s, m, k, ry, ey⟩ := hy
  have hs : s = false := by
    rcases read_nn (Nat.le_of_lt hy') with ⟨m', e', h'⟩ | h'
    · rw [ry] at h'; injection h'
    · rw [ry] at h'; cases h'
  subst hs
  have hm : m ≠ 0 := by
    rintro rfl
    rw [Nat.zero_mul] at ey
    have : 0 < n * (U : Int) := Int.mul_pos hn (by exact_mod_cast U_pos)
    rw [ey] at this
    simp [sg] at this
  unfold Format.div
  rw [ry]
  rcases read_nn hx with ⟨m', e', h'⟩ | h'
  · rw [h']
    simp only [Datum.quotient]
    rw [if_neg hm]
    exact ⟨_, rfl, nearest_nn _ _⟩
  · rw [h']
    exact ⟨_, rfl, by show double.write (.infinity false) ≤ _; rw [inf_word]; exact Nat.le_refl _⟩

/-- The floor of what is not below zero. -/
def floorN (x : Nat) : Nat := double.write ((double.read x).integral .down)
theorem floor_num {x : Nat} (h : x ≤ 9218868437227405312) : floorN x ≤ 9218868437227405312 := by
  unfold floorN
  rcases read_nn h with ⟨m, e, h'⟩ | h'
  · rw [h']; exact nearest_nn _ _
  · rw [h']; show double.write (.infinity false) ≤ _; rw [inf_word]; exact Nat.le_refl _
/-- A word from 2^53 on, infinity too. -/
def Big (x : Nat) : Prop := ∀ z n, I z n → n < 9007199254740992 → double.order x z = some .gt
theorem inf_big {x : Nat} (h : double.read x = .infinity false) : Big x := by
  rintro z n ⟨s, m, k, rz, _⟩ _
  unfold Format.order
  rw [h, rz]; rfl
theorem cmp_gt {a b : Int} (h : b < a) : compare a b = Ordering.gt := by
  show compareOfLessAndEq a b = _
  unfold compareOfLessAndEq
  rw [if_neg (by omega), if_neg (by omega)]
theorem word_big {r : Nat} (h1 : 4845873199050653696 ≤ r) (h2 : r ≤ 9218868437227405312) : Big r := by
  by_cases hr : r = 9218868437227405312
  · subst hr; exact inf_big (by decide)
  · intro z n hz hn
    have hw := read_word false r (by omega) (by omega)
    have hv : Val r (((4503599627370496 + r % 4503599627370496) * 2 ^ (r / 4503599627370496 - 1) : Nat) : Int) := ⟨false, _, _, hw, by simp [sg]⟩
    rw [order_val hv hz]
    congr 1
    refine cmp_gt ?_
    have h3 : 2 ^ 1 * U ≤ 2 ^ (r / 4503599627370496 - 1) := by
      have := E_eq
      rw [U, ← Nat.pow_add]
      exact Nat.pow_le_pow_right (by decide) (by omega)
    have h4 : 4503599627370496 * (2 ^ 1 * U) ≤ (4503599627370496 + r % 4503599627370496) * 2 ^ (r / 4503599627370496 - 1) := Nat.mul_le_mul (by omega) h3
    have h5 : n * (U : Int) < 9007199254740992 * (U : Int) := Int.mul_lt_mul_of_pos_right hn (by exact_mod_cast U_pos)
    have h6 : ((4503599627370496 * (2 ^ 1 * U) : Nat) : Int) ≤ (((4503599627370496 + r % 4503599627370496) * 2 ^ (r / 4503599627370496 - 1) : Nat) : Int) := by exact_mod_cast h4
    have h7 : ((4503599627370496 * (2 ^ 1 * U) : Nat) : Int) = 9007199254740992 * (U : Int) := by
      rw [← Nat.mul_assoc, Int.natCast_mul]; rfl
    omega
theorem nearest_cases (M : Nat) : I (double.nearest false M 0) M ∨ Big (double.nearest false M 0) := by
  by_cases h : M < 9007199254740992
  · left
    have := nearest_I false M 0 0 M (by simp [sg]) (by unfold Small; omega)
    exact this
  · right
    refine word_big ?_ (nearest_nn _ _)
    have hlp : double.leastPlace = -1074 := by decide
    have hfb : double.fractionBits = 52 := rfl
    have hbi : double.binade = 4503599627370496 := by decide
    have hin : double.infRung = 9218868437227405312 := by decide
    have hM : M ≠ 0 := by omega
    have hL : 53 ≤ M.log2 := (Nat.le_log2 hM).2 (by omega)
    unfold Format.nearest
    rw [if_neg hM]
    simp only [hlp, hfb, hbi, hin]
    have e1 : max ((0 : Int) + (M.log2 : Int) - ((52 : Nat) : Int)) (-1074) = (M.log2 : Int) - 52 := by omega
    rw [e1]
    have e2 : ((M.log2 : Int) - 52 - -1074).toNat = M.log2 + 1022 := by omega
    have e3 : ((0 : Int) - ((M.log2 : Int) - 52)).toNat = 0 := by omega
    have e4 : ((M.log2 : Int) - 52 - 0).toNat = M.log2 - 52 := by omega
    rw [e2, e3, e4, Nat.shiftLeft_zero]
    rw [word_false]
    have hcut : 4503599627370496 ≤ Toward.even.cut false M (M.log2 - 52) := by
      unfold Toward.cut
      dsimp only
      rw [Nat.min_eq_left (by omega), Nat.one_shiftLeft]
      refine Nat.le_trans ?_ (Nat.le_add_right _ _)
      rw [Nat.le_div_iff_mul_le (Nat.pow_pos (by decide))]
      show 2 ^ 52 * 2 ^ (M.log2 - 52) ≤ M
      rw [← Nat.pow_add, show 52 + (M.log2 - 52) = M.log2 by omega]
      exact Nat.log2_self_le hM
    generalize Toward.even.cut false M (M.log2 - 52) = K at hcut ⊢
    refine Nat.le_min.2 ⟨?_, by decide⟩
    omega
theorem floor_cases {x : Nat} (h : x ≤ 9218868437227405312) : (∃ M : Nat, I (floorN x) M) ∨ Big (floorN x) := by
  unfold floorN
  rcases read_nn h with ⟨m, e, h'⟩ | h'
  · rw [h']
    simp only [Datum.integral]
    rcases nearest_cases (Toward.down.cut false (m <<< e.toNat) (-e).toNat) with h | h
    · exact .inl ⟨_, h⟩
    · exact .inr h
  · rw [h']; exact .inr (inf_big (by decide))

/-- int64(x) of a whole number. -/
theorem toInt_I {x : Nat} {n : Int} (h : I x n) : (double.read x).toInt .zero = some n := by
  obtain ⟨s, m, k, rx, ex⟩ := h
  rw [rx]
  unfold Datum.toInt
  simp only [Datum.integral]
  rw [signed_sg, Nat.pow_zero, Nat.mul_one]
  congr 1
  have hup : (0 : Int) < U := by exact_mod_cast U_pos
  refine Int.eq_of_mul_eq_mul_right (Int.ne_of_gt hup) ?_
  rw [ex, ← sg_mul]
  congr 1
  have ha : m * 2 ^ k = n.natAbs * U := by
    have := congrArg Int.natAbs ex
    rw [sg_abs, Int.natAbs_mul, Int.natAbs_natCast] at this
    exact this.symm
  rw [ha]
  congr 1
  rw [Nat.shiftLeft_eq]
  by_cases hk : 1074 ≤ k
  · have e1 : (-1074 + (k : Int)).toNat = k - 1074 := by omega
    have e2 : (-(-1074 + (k : Int))).toNat = 0 := by omega
    rw [e1, e2]
    have : m * 2 ^ (k - 1074) = n.natAbs := by
      refine Nat.eq_of_mul_eq_mul_right U_pos ?_
      have := E_eq
      rw [← ha, U, Nat.mul_assoc, ← Nat.pow_add]
      congr 2
      omega
    rw [this]
    simp [Toward.cut]
  · have e1 : (-1074 + (k : Int)).toNat = 0 := by omega
    have e2 : (-(-1074 + (k : Int))).toNat = 1074 - k := by omega
    rw [e1, e2, Nat.pow_zero, Nat.mul_one]
    have : m = n.natAbs * 2 ^ (1074 - k) := by
      refine Nat.eq_of_mul_eq_mul_right (Nat.pow_pos (n := k) (show 0 < 2 by decide)) ?_
      rw [ha, Nat.mul_assoc, U_pow _ _ (by omega)]
    by_cases hn : n.natAbs = 0
    · rw [this, hn, Nat.zero_mul]; simp [Toward.cut]
    · rw [this]; exact cut_exact _ _ _ hn _

end Go.Proofs.Ybulkbuhe.Fl
