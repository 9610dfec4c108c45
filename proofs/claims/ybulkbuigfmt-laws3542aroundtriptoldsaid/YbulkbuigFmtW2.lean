/-
  The walk of the hand-written model.
-/
import Derived.Test.YbulkbuigFmtRows
import Derived.Test.YbulkbuigFmtPlain
import Derived.WalkKit
import Derived.WalkSpells
import Derived.WalkLawsBesides
import Derived.Lib.Strings
namespace Go.Proofs.YbulkbuigFmt
open Go.RowKit Plain

/-- What the model hands back. -/
def mInt (l : List UInt8) : Int := (canon l).getD 0
def mOk (l : List UInt8) : Bool := (canon l).isSome

theorem ret_pair {a b : Int} {x y : Bool} (h : a = b) (k : x = y) : Ending.returned (.tuple #[.int .i64 a, .bool x]) = .returned (.tuple #[.int .i64 b, .bool y]) := by rw [h, k]

theorem digs_lt (d : List UInt8) : ∀ u, digs 0 d = some u → u < 10 ^ d.length := by
  have key : ∀ (d : List UInt8) (acc n u : Nat), acc < 10 ^ n → digs acc d = some u → u < 10 ^ (n + d.length) := by
    intro d
    induction d with
    | nil => intro acc n u h hu; cases hu; simpa using h
    | cons c r ih =>
      intro acc n u h hu
      simp only [digs] at hu
      split at hu
      · have := ih _ (n + 1) u (by rw [Nat.pow_succ]; omega) hu
        rw [List.length_cons, show n + (r.length + 1) = n + 1 + r.length by omega]
        exact this
      · cases hu
  intro u hu
  have := key d 0 0 u (by decide) hu
  simpa using this

theorem take_snoc (s : ByteArray) (k : Nat) (h : k < s.size) : s.data.toList.take (k + 1) = s.data.toList.take k ++ [s[k]] := by
  rw [List.take_succ_eq_append_getElem (by simpa using h)]; rfl

/-! Plain steps, in the walk's own forms. -/
theorem head_get (s : ByteArray) (h : 0 < s.size) : s.data.toList.headD 0 = s[0] := by
  have : 0 < s.data.toList.length := by simpa using h
  cases hl : s.data.toList with
  | nil => rw [hl] at this; simp at this
  | cons c r =>
    have e : s[0] = s.data.toList[0] := rfl
    rw [e]; simp [hl]
theorem len_size (s : ByteArray) : s.data.toList.length = s.size := by simp

theorem tail_bad {neg : Bool} {d : List UInt8} (h : d.length = 0 ∨ 19 < d.length ∨ (d.headD 0).toNat < 49 ∨ 57 < (d.headD 0).toNat) : tailOf neg d = none := by
  unfold tailOf; rw [if_pos h]
theorem digs_take {d : List UInt8} {k : Nat} (h : digs 0 (d.take k) = none) : digs 0 d = none := by
  have := digs_append (d.take k) (d.drop k) 0
  rw [List.take_append_drop] at this
  rw [this, h]; rfl
theorem tail_stop {neg : Bool} {d : List UInt8} {k : Nat} (h : digs 0 (d.take k) = none) : tailOf neg d = none := by
  unfold tailOf
  rw [digs_take h]
  split <;> rfl
theorem tail_end {neg : Bool} {d : List UInt8} {x : Nat} (h0 : d.length ≠ 0) (h1 : d.length ≤ 19) (h2 : 49 ≤ (d.headD 0).toNat) (h3 : (d.headD 0).toNat ≤ 57) (h : digs 0 d = some x) :
    tailOf neg d = if neg then (if 9223372036854775808 < x then none else some (-(x : Int))) else if 9223372036854775807 < x then none else some (x : Int) := by
  unfold tailOf
  rw [if_neg (by simp only [not_or]; exact ⟨h0, by omega, by omega, by omega⟩), h]
theorem canon_pos {s : ByteArray} (h1 : (s.toList == [48]) = false) (h2 : 0 < s.size) (h3 : ((s[0].toNat : Int) == 45) = false) : canon s.data.toList = tailOf false s.data.toList := by
  have e1 : ¬ s.data.toList = [48] := by
    rw [beq_eq_false_iff_ne] at h1
    rwa [ByteArray.toList_eq] at h1
  unfold canon
  rw [if_neg e1, head_get s h2, if_neg]
  intro e
  rw [e] at h3
  exact absurd h3 (by decide)
theorem canon_neg {s : ByteArray} (h2 : 0 < s.size) (h3 : ((s[0].toNat : Int) == 45) = true) : canon s.data.toList = tailOf true s.data.toList.tail := by
  have e3 : s[0] = 45 := by
    rw [beq_iff_eq] at h3
    exact UInt8.toNat_inj.1 (by rw [show (45 : UInt8).toNat = 45 from rfl]; omega)
  have e0 := head_get s h2
  unfold canon
  rw [if_neg, e0, if_pos e3]
  intro e
  rw [e] at e0
  rw [e3] at e0
  exact absurd e0 (by decide)
theorem bad_none {l : List UInt8} (h : canon l = none) : (0 : Int) = mInt l ∧ false = mOk l := by
  unfold mInt mOk; rw [h]; exact ⟨rfl, rfl⟩
theorem good_some {l : List UInt8} {v : Int} (h : canon l = some v) : v = mInt l ∧ true = mOk l := by
  unfold mInt mOk; rw [h]; exact ⟨rfl, rfl⟩

set_option maxHeartbeats 400000 in
theorem model_pos (s : ByteArray) (w : World) (hs : s.size ≤ 1024) (h1 : (s.toList == [48]) = false) (h2 : 0 < s.size) (h3 : ((s[0].toNat : Int) == 45) = false) (h4 : s.size ≤ 19) (h5 : 49 ≤ (s[0].toNat : Int)) (h6 : (s[0].toNat : Int) ≤ 57) :
    Calls Ybaf.prog 7 #[.string s] w fun e w' => e = .returned (.tuple #[.int .i64 (mInt s.data.toList), .bool (mOk s.data.toList)]) ∧ w' = w := by
  have z1 : ¬ s = ByteArray.empty := by intro e; subst e; exact absurd h2 (by decide)
  have z2 : ((s.size : Int) == 0) = false := by rw [beq_eq_false_iff_ne]; omega
  have z3 : decide (19 < (s.size : Int)) = false := by rw [decide_eq_false_iff_not]; omega
  have z4 : decide ((s[0].toNat : Int) < 49) = false := by rw [decide_eq_false_iff_not]; omega
  have z5 : decide (57 < (s[0].toNat : Int)) = false := by rw [decide_eq_false_iff_not]; omega
  have HC : Hid (canon s.data.toList = tailOf false s.data.toList) := canon_pos h1 h2 h3
  have HE : Hid (∀ x, digs 0 s.data.toList = some x → tailOf false s.data.toList = if 9223372036854775807 < x then none else some (x : Int)) := fun x hx => by
    have := tail_end (neg := false) (d := s.data.toList) (x := x) (by rw [len_size]; omega) (by rw [len_size]; omega) (by rw [head_get s h2]; omega) (by rw [head_get s h2]; omega) hx
    simpa using this
  go_enter Ybaf.func7, Ybaf.ntmps7
  go_wp2
  go_loop [6, 7, 8] (fun u i _ => ∃ k x : Nat, k ≤ s.size ∧ i = .int .i64 k ∧ u = .int .u64 x ∧ digs 0 (s.data.toList.take k) = some x) (fun _ i _ => s.size - (intOf i).toNat)
  case atStart => exact ⟨0, 0, Nat.zero_le _, rfl, rfl, rfl⟩
  case round =>
    obtain ⟨k, x, hk, rfl, rfl, hx⟩ := hrel
    by_cases hlt : k < s.size
    · have hlx : x < 1000000000000000000 := by
        have := digs_lt _ _ hx
        have hl : (s.data.toList.take k).length ≤ 18 := by rw [List.length_take]; omega
        exact Nat.lt_of_lt_of_le this (Nat.pow_le_pow_right (by decide) hl)
      have HS : Hid (digs 0 (s.data.toList.take (k + 1)) = digs x [s[k]]) := by
        show digs 0 (s.data.toList.take (k + 1)) = digs x [s[k]]
        rw [take_snoc s k hlt, digs_append, hx]; rfl
      clear hx
      by_cases hd : 48 ≤ s[k].toNat ∧ s[k].toNat ≤ 57
      · have hd1 : 48 ≤ (s[k].toNat : Int) := by omega
        have hd2 : (s[k].toNat : Int) ≤ 57 := by omega
        have hd3 : decide ((s[k].toNat : Int) < 48) = false := by rw [decide_eq_false_iff_not]; omega
        have hd4 : decide (57 < (s[k].toNat : Int)) = false := by rw [decide_eq_false_iff_not]; omega
        go_wp2
        go_round
        case rel => exact ⟨k + 1, x * 10 + (s[k].toNat - 48), by omega, by go_num, congrArg (Value.int .u64) (by omega), by rw [HS.out]; simp only [digs]; rw [if_pos hd]⟩
        case measure => simp [intOf]; omega
      · have HN : Hid (canon s.data.toList = none) := by
          show canon s.data.toList = none
          rw [HC.out]
          refine tail_stop (k := k + 1) ?_
          rw [HS.out]; simp only [digs]; rw [if_neg hd]
        by_cases hd1 : (s[k].toNat : Int) < 48
        · go_wp2
          go_ret2
          exact ⟨ret_pair (bad_none HN.out).1 (bad_none HN.out).2, rfl⟩
        · have hd3 : decide ((s[k].toNat : Int) < 48) = false := by rw [decide_eq_false_iff_not]; omega
          have hd4 : 57 < (s[k].toNat : Int) := by omega
          go_wp2
          go_ret2
          exact ⟨ret_pair (bad_none HN.out).1 (bad_none HN.out).2, rfl⟩
    · have hke : s.data.toList.take k = s.data.toList := List.take_of_length_le (by rw [len_size]; omega)
      rw [hke] at hx
      have HX : Hid (canon s.data.toList = if 9223372036854775807 < x then none else some (x : Int)) := by
        show canon s.data.toList = _
        rw [HC.out, HE.out x hx]
      have hlx : x < 10000000000000000000 := by
        have := digs_lt _ _ hx
        have hl : s.data.toList.length ≤ 19 := by rw [len_size]; omega
        exact Nat.lt_of_lt_of_le this (Nat.pow_le_pow_right (by decide) hl)
      clear hx hke
      by_cases hb : 9223372036854775807 < x
      · have HN : Hid (canon s.data.toList = none) := by show canon s.data.toList = none; rw [HX.out, if_pos hb]
        have hb' : 9223372036854775807 < (x : Int) := by omega
        go_wp2
        go_ret2
        exact ⟨ret_pair (bad_none HN.out).1 (bad_none HN.out).2, rfl⟩
      · have HN : Hid (canon s.data.toList = some (x : Int)) := by show canon s.data.toList = _; rw [HX.out, if_neg hb]
        have hb' : decide (9223372036854775807 < (x : Int)) = false := by rw [decide_eq_false_iff_not]; omega
        go_wp2
        go_ret2
        exact ⟨ret_pair (good_some HN.out).1 (good_some HN.out).2, rfl⟩

theorem neg_back (x : Nat) (h : x ≤ 9223372036854775808) : wrap64 (IntKind.u64.wrap (-(x : Int))) = -(x : Int) := by
  rw [IntKind.wrap_u64]
  unfold wrap64
  omega

/-- The tail's bytes. -/
theorem extract_tail (s : ByteArray) : (s.extract 1 s.size).data.toList = s.data.toList.tail := by
  rw [Lib.extract_data]
  simp only [List.drop_one]
  exact List.take_of_length_le (by simp)

set_option maxHeartbeats 400000 in
theorem model_neg (s D : ByteArray) (w : World) (hs : s.size ≤ 1024) (hD : s.extract 1 s.size = D) (h1 : (s.toList == [48]) = false) (h2 : 0 < s.size) (h3 : ((s[0].toNat : Int) == 45) = true) (h4 : D.size ≤ 19) (h40 : 0 < D.size) (h5 : 49 ≤ (D[0].toNat : Int)) (h6 : (D[0].toNat : Int) ≤ 57) :
    Calls Ybaf.prog 7 #[.string s] w fun e w' => e = .returned (.tuple #[.int .i64 (mInt s.data.toList), .bool (mOk s.data.toList)]) ∧ w' = w := by
  have z1 : ¬ D = ByteArray.empty := by intro e; subst e; exact absurd h40 (by decide)
  have z2 : ((D.size : Int) == 0) = false := by rw [beq_eq_false_iff_ne]; omega
  have z3 : decide (19 < (D.size : Int)) = false := by rw [decide_eq_false_iff_not]; omega
  have z4 : decide ((D[0].toNat : Int) < 49) = false := by rw [decide_eq_false_iff_not]; omega
  have z5 : decide (57 < (D[0].toNat : Int)) = false := by rw [decide_eq_false_iff_not]; omega
  have HC : Hid (canon s.data.toList = tailOf true D.data.toList) := by
    show canon s.data.toList = _
    rw [canon_neg h2 h3, ← hD, extract_tail]
  have HE : Hid (∀ x, digs 0 D.data.toList = some x → tailOf true D.data.toList = if 9223372036854775808 < x then none else some (-(x : Int))) := fun x hx => by
    have := tail_end (neg := true) (d := D.data.toList) (x := x) (by rw [len_size]; omega) (by rw [len_size]; omega) (by rw [head_get D h40]; omega) (by rw [head_get D h40]; omega) hx
    simpa using this
  go_enter Ybaf.func7, Ybaf.ntmps7
  go_wp2
  go_loop [6, 7, 8] (fun u i _ => ∃ k x : Nat, k ≤ D.size ∧ i = .int .i64 k ∧ u = .int .u64 x ∧ digs 0 (D.data.toList.take k) = some x) (fun _ i _ => D.size - (intOf i).toNat)
  case atStart => exact ⟨0, 0, Nat.zero_le _, rfl, rfl, rfl⟩
  case round =>
    obtain ⟨k, x, hk, rfl, rfl, hx⟩ := hrel
    by_cases hlt : k < D.size
    · have hlx : x < 1000000000000000000 := by
        have := digs_lt _ _ hx
        have hl : (D.data.toList.take k).length ≤ 18 := by rw [List.length_take]; omega
        exact Nat.lt_of_lt_of_le this (Nat.pow_le_pow_right (by decide) hl)
      have HS : Hid (digs 0 (D.data.toList.take (k + 1)) = digs x [D[k]]) := by
        show digs 0 (D.data.toList.take (k + 1)) = digs x [D[k]]
        rw [take_snoc D k hlt, digs_append, hx]; rfl
      clear hx
      by_cases hd : 48 ≤ D[k].toNat ∧ D[k].toNat ≤ 57
      · have hd1 : 48 ≤ (D[k].toNat : Int) := by omega
        have hd2 : (D[k].toNat : Int) ≤ 57 := by omega
        have hd3 : decide ((D[k].toNat : Int) < 48) = false := by rw [decide_eq_false_iff_not]; omega
        have hd4 : decide (57 < (D[k].toNat : Int)) = false := by rw [decide_eq_false_iff_not]; omega
        go_wp2
        go_round
        case rel => exact ⟨k + 1, x * 10 + (D[k].toNat - 48), by omega, by go_num, congrArg (Value.int .u64) (by omega), by rw [HS.out]; simp only [digs]; rw [if_pos hd]⟩
        case measure => simp [intOf]; omega
      · have HN : Hid (canon s.data.toList = none) := by
          show canon s.data.toList = none
          rw [HC.out]
          refine tail_stop (k := k + 1) ?_
          rw [HS.out]; simp only [digs]; rw [if_neg hd]
        by_cases hd1 : (D[k].toNat : Int) < 48
        · go_wp2
          go_ret2
          exact ⟨ret_pair (bad_none HN.out).1 (bad_none HN.out).2, rfl⟩
        · have hd3 : decide ((D[k].toNat : Int) < 48) = false := by rw [decide_eq_false_iff_not]; omega
          have hd4 : 57 < (D[k].toNat : Int) := by omega
          go_wp2
          go_ret2
          exact ⟨ret_pair (bad_none HN.out).1 (bad_none HN.out).2, rfl⟩
    · have hke : D.data.toList.take k = D.data.toList := List.take_of_length_le (by rw [len_size]; omega)
      rw [hke] at hx
      have HX : Hid (canon s.data.toList = if 9223372036854775808 < x then none else some (-(x : Int))) := by
        show canon s.data.toList = _
        rw [HC.out, HE.out x hx]
      have hlx : x < 10000000000000000000 := by
        have := digs_lt _ _ hx
        have hl : D.data.toList.length ≤ 19 := by rw [len_size]; omega
        exact Nat.lt_of_lt_of_le this (Nat.pow_le_pow_right (by decide) hl)
      clear hx hke
      by_cases hb : 9223372036854775808 < x
      · have HN : Hid (canon s.data.toList = none) := by show canon s.data.toList = none; rw [HX.out, if_pos hb]
        have hb' : 9223372036854775808 < (x : Int) := by omega
        go_wp2
        go_ret2
        exact ⟨ret_pair (bad_none HN.out).1 (bad_none HN.out).2, rfl⟩
      · have HN : Hid (canon s.data.toList = some (-(x : Int))) := by show canon s.data.toList = _; rw [HX.out, if_neg hb]
        have hb' : decide (9223372036854775808 < (x : Int)) = false := by rw [decide_eq_false_iff_not]; omega
        have hle : x ≤ 9223372036854775808 := by omega
        clear hb
        go_wp2
        go_ret2
        exact ⟨ret_pair ((neg_back x hle).trans (good_some HN.out).1) (good_some HN.out).2, rfl⟩

set_option maxHeartbeats 400000 in
theorem model_bad_empty (s : ByteArray) (w : World) (h1 : (s.toList == [48]) = false) (h2 : s = ByteArray.empty) :
    Calls Ybaf.prog 7 #[.string s] w fun e w' => e = .returned (.tuple #[.int .i64 (mInt s.data.toList), .bool (mOk s.data.toList)]) ∧ w' = w := by
  subst h2
  have HN : Hid (canon ByteArray.empty.data.toList = none) := by show canon [] = none; decide
  go_enter Ybaf.func7, Ybaf.ntmps7
  go_wp2
  go_ret2
  exact ⟨ret_pair (bad_none HN.out).1 (bad_none HN.out).2, rfl⟩

set_option maxHeartbeats 400000 in
theorem model_zero (s : ByteArray) (w : World) (h1 : (s.toList == [48]) = true) :
    Calls Ybaf.prog 7 #[.string s] w fun e w' => e = .returned (.tuple #[.int .i64 (mInt s.data.toList), .bool (mOk s.data.toList)]) ∧ w' = w := by
  have HN : Hid (canon s.data.toList = some 0) := by
    show canon s.data.toList = some 0
    rw [beq_iff_eq, ByteArray.toList_eq] at h1
    rw [h1]; decide
  go_enter Ybaf.func7, Ybaf.ntmps7
  go_wp2
  go_ret2
  exact ⟨ret_pair (good_some HN.out).1 (good_some HN.out).2, rfl⟩

set_option maxHeartbeats 400000 in
theorem model_bad_pos (s : ByteArray) (w : World) (hs : s.size ≤ 1024) (h1 : (s.toList == [48]) = false) (h2 : 0 < s.size) (h3 : ((s[0].toNat : Int) == 45) = false) (h4 : 19 < (s.size : Int) ∨ (s.size : Int) ≤ 19 ∧ ((s[0].toNat : Int) < 49 ∨ 49 ≤ (s[0].toNat : Int) ∧ 57 < (s[0].toNat : Int))) :
    Calls Ybaf.prog 7 #[.string s] w fun e w' => e = .returned (.tuple #[.int .i64 (mInt s.data.toList), .bool (mOk s.data.toList)]) ∧ w' = w := by
  have z1 : ¬ s = ByteArray.empty := by intro e; subst e; exact absurd h2 (by decide)
  have z2 : ((s.size : Int) == 0) = false := by rw [beq_eq_false_iff_ne]; omega
  have HN : Hid (canon s.data.toList = none) := by
    show canon s.data.toList = none
    rw [canon_pos h1 h2 h3]
    refine tail_bad ?_
    rw [head_get s h2, len_size]
    omega
  rcases h4 with h4 | ⟨h4, h5 | ⟨h5, h6⟩⟩
  · go_enter Ybaf.func7, Ybaf.ntmps7
    go_wp2
    go_ret2
    exact ⟨ret_pair (bad_none HN.out).1 (bad_none HN.out).2, rfl⟩
  · have z3 : decide (19 < (s.size : Int)) = false := by rw [decide_eq_false_iff_not]; omega
    go_enter Ybaf.func7, Ybaf.ntmps7
    go_wp2
    go_ret2
    exact ⟨ret_pair (bad_none HN.out).1 (bad_none HN.out).2, rfl⟩
  · have z3 : decide (19 < (s.size : Int)) = false := by rw [decide_eq_false_iff_not]; omega
    have z4 : decide ((s[0].toNat : Int) < 49) = false := by rw [decide_eq_false_iff_not]; omega
    go_enter Ybaf.func7, Ybaf.ntmps7
    go_wp2
    go_ret2
    exact ⟨ret_pair (bad_none HN.out).1 (bad_none HN.out).2, rfl⟩

set_option maxHeartbeats 400000 in
theorem model_bad_neg (s D : ByteArray) (w : World) (hs : s.size ≤ 1024) (hD : s.extract 1 s.size = D) (h1 : (s.toList == [48]) = false) (h2 : 0 < s.size) (h3 : ((s[0].toNat : Int) == 45) = true) (h40 : 0 < D.size) (h4 : 19 < (D.size : Int) ∨ (D.size : Int) ≤ 19 ∧ ((D[0].toNat : Int) < 49 ∨ 49 ≤ (D[0].toNat : Int) ∧ 57 < (D[0].toNat : Int))) :
    Calls Ybaf.prog 7 #[.string s] w fun e w' => e = .returned (.tuple #[.int .i64 (mInt s.data.toList), .bool (mOk s.data.toList)]) ∧ w' = w := by
  have hDs : D.size ≤ 1024 := by rw [← hD]; simp; omega
  have z1 : ¬ D = ByteArray.empty := by intro e; subst e; exact absurd h40 (by decide)
  have z2 : ((D.size : Int) == 0) = false := by rw [beq_eq_false_iff_ne]; omega
  have HN : Hid (canon s.data.toList = none) := by
    show canon s.data.toList = none
    rw [canon_neg h2 h3, ← extract_tail, hD]
    refine tail_bad ?_
    rw [head_get D h40, len_size]
    omega
  rcases h4 with h4 | ⟨h4, h5 | ⟨h5, h6⟩⟩
  · go_enter Ybaf.func7, Ybaf.ntmps7
    go_wp2
    go_ret2
    exact ⟨ret_pair (bad_none HN.out).1 (bad_none HN.out).2, rfl⟩
  · have z3 : decide (19 < (D.size : Int)) = false := by rw [decide_eq_false_iff_not]; omega
    go_enter Ybaf.func7, Ybaf.ntmps7
    go_wp2
    go_ret2
    exact ⟨ret_pair (bad_none HN.out).1 (bad_none HN.out).2, rfl⟩
  · have z3 : decide (19 < (D.size : Int)) = false := by rw [decide_eq_false_iff_not]; omega
    have z4 : decide ((D[0].toNat : Int) < 49) = false := by rw [decide_eq_false_iff_not]; omega
    go_enter Ybaf.func7, Ybaf.ntmps7
    go_wp2
    go_ret2
    exact ⟨ret_pair (bad_none HN.out).1 (bad_none HN.out).2, rfl⟩

set_option maxHeartbeats 400000 in
theorem model_bad_bare (s : ByteArray) (w : World) (hD : s.extract 1 s.size = ByteArray.empty) (h1 : (s.toList == [48]) = false) (h2 : 0 < s.size) (h3 : ((s[0].toNat : Int) == 45) = true) :
    Calls Ybaf.prog 7 #[.string s] w fun e w' => e = .returned (.tuple #[.int .i64 (mInt s.data.toList), .bool (mOk s.data.toList)]) ∧ w' = w := by
  have HN : Hid (canon s.data.toList = none) := by
    show canon s.data.toList = none
    rw [canon_neg h2 h3, ← extract_tail, hD]
    decide
  go_enter Ybaf.func7, Ybaf.ntmps7
  go_wp2
  go_ret2
  exact ⟨ret_pair (bad_none HN.out).1 (bad_none HN.out).2, rfl⟩

theorem empty_of_size {s : ByteArray} (h : ¬ 0 < s.size) : s = ByteArray.empty := by
  have : s.size = 0 := by omega
  obtain ⟨⟨l⟩⟩ := s
  cases l with
  | nil => rfl
  | cons c r => simp [ByteArray.size] at this

/-- The model, at every string of at most 1024 bytes. -/
theorem model_walk (s : ByteArray) (w : World) (hs : s.size ≤ 1024) :
    Calls Ybaf.prog 7 #[.string s] w fun e w' => e = .returned (.tuple #[.int .i64 (mInt s.data.toList), .bool (mOk s.data.toList)]) ∧ w' = w := by
  cases h1 : (s.toList == [48]) with
  | true => exact model_zero s w h1
  | false =>
    by_cases h2 : 0 < s.size
    · cases h3 : ((s[0].toNat : Int) == 45) with
      | false =>
        by_cases h4 : s.size ≤ 19 ∧ 49 ≤ (s[0].toNat : Int) ∧ (s[0].toNat : Int) ≤ 57
        · exact model_pos s w hs h1 h2 h3 h4.1 h4.2.1 h4.2.2
        · exact model_bad_pos s w hs h1 h2 h3 (by omega)
      | true =>
        by_cases h40 : 0 < (s.extract 1 s.size).size
        · by_cases h4 : (s.extract 1 s.size).size ≤ 19 ∧ 49 ≤ ((s.extract 1 s.size)[0].toNat : Int) ∧ ((s.extract 1 s.size)[0].toNat : Int) ≤ 57
          · exact model_neg s _ w hs rfl h1 h2 h3 h4.1 h40 h4.2.1 h4.2.2
          · exact model_bad_neg s _ w hs rfl h1 h2 h3 h40 (by omega)
        · exact model_bad_bare s w (empty_of_size h40) h1 h2 h3
    · exact model_bad_empty s w h1 (empty_of_size h2)
end Go.Proofs.YbulkbuigFmt
