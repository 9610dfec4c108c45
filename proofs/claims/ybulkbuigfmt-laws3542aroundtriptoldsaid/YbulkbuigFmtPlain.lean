/-
  Plain: the canonical decimal spelling of an int64. No Go in sight.
-/
import Derived.Lib.ParseIntB
import Derived.Lib.ItoaNum
namespace Go.Proofs.YbulkbuigFmt.Plain
open Go.Lib

/-- What the digits spell, behind acc. -/
def digs (acc : Nat) : List UInt8 → Option Nat
  | [] => some acc
  | c :: r => if 48 ≤ c.toNat ∧ c.toNat ≤ 57 then digs (acc * 10 + (c.toNat - 48)) r else none

/-- The body of the hand-written model behind the sign. -/
def tailOf (neg : Bool) (d : List UInt8) : Option Int :=
  if d.length = 0 ∨ 19 < d.length ∨ (d.headD 0).toNat < 49 ∨ 57 < (d.headD 0).toNat then none
  else match digs 0 d with
    | none => none
    | some u => if neg then (if 9223372036854775808 < u then none else some (-(u : Int))) else if 9223372036854775807 < u then none else some (u : Int)

def canon (l : List UInt8) : Option Int :=
  if l = [48] then some 0
  else if l.headD 0 = 45 then tailOf true l.tail else tailOf false l

theorem dec_zero : decDigits 0 = [48] := by rw [decDigits, dif_pos (by decide)]; rfl
theorem itoa_zero : itoa 0 = [48] := by unfold itoa; rw [if_neg (by decide)]; exact dec_zero

theorem digs_append (a b : List UInt8) : ∀ acc, digs acc (a ++ b) = (digs acc a).bind fun x => digs x b := by
  induction a with
  | nil => intro acc; rfl
  | cons c r ih =>
    intro acc
    simp only [List.cons_append, digs]
    split
    · exact ih _
    · rfl

theorem digs_ge (d : List UInt8) : ∀ acc u, digs acc d = some u → acc ≤ u := by
  induction d with
  | nil => intro acc u h; cases h; exact Nat.le_refl _
  | cons c r ih =>
    intro acc u h
    simp only [digs] at h
    split at h
    · have := ih _ _ h; omega
    · cases h

theorem digit_toNat (k : Nat) (h : k < 10) : (UInt8.ofNat (48 + k)).toNat = 48 + k := by
  rw [UInt8.toNat_ofNat']; omega

theorem digs_dec (u : Nat) : ∃ k, ∀ acc, digs acc (decDigits u) = some (acc * 10 ^ k + u) := by
  induction u using Nat.strongRecOn with
  | _ u ih =>
    by_cases h : u < 10
    · refine ⟨1, fun acc => ?_⟩
      rw [decDigits, dif_pos h]
      simp only [digs, digit_toNat u h]
      rw [if_pos (by omega)]
      simp
    · obtain ⟨k, hk⟩ := ih (u / 10) (by omega)
      refine ⟨k + 1, fun acc => ?_⟩
      rw [decDigits, dif_neg h, digs_append, hk]
      simp only [Option.bind_some, digs, digit_toNat (u % 10) (by omega)]
      rw [if_pos (by omega), Nat.pow_succ, ← Nat.mul_assoc]
      congr 1
      generalize acc * 10 ^ k = x
      omega

theorem digs_decDigits (u : Nat) : digs 0 (decDigits u) = some u := by
  obtain ⟨k, hk⟩ := digs_dec u
  rw [hk]; simp

theorem dec_ne (u : Nat) : decDigits u ≠ [] := by
  intro h
  have := decDigits_length u
  have := nDigits_pos u
  rw [h] at *
  simp at *
  omega

theorem head_append {a b : List UInt8} (h : a ≠ []) : (a ++ b).headD 0 = a.headD 0 := by
  cases a with
  | nil => exact absurd rfl h
  | cons c r => rfl

theorem dec_head (u : Nat) (h1 : 1 ≤ u) : 49 ≤ ((decDigits u).headD 0).toNat ∧ ((decDigits u).headD 0).toNat ≤ 57 := by
  induction u using Nat.strongRecOn with
  | _ u ih =>
    by_cases h : u < 10
    · rw [decDigits, dif_pos h]
      simp only [List.headD_cons, digit_toNat u h]
      omega
    · rw [decDigits, dif_neg h, head_append (dec_ne _)]
      exact ih (u / 10) (by omega) (by omega)

/-- The digits back: no leading nought. -/
theorem dec_of_digs (d : List UInt8) : ∀ (n : Nat), d.length = n → d ≠ [] → 49 ≤ (d.headD 0).toNat → ∀ u, digs 0 d = some u → 1 ≤ u ∧ decDigits u = d := by
  intro n
  induction n generalizing d with
  | zero => intro hl hne; exact absurd (List.length_eq_zero_iff.1 hl) hne
  | succ n ih =>
    intro hl hne hh u hu
    obtain ⟨d', c, rfl⟩ : ∃ d' c, d = d' ++ [c] := ⟨d.dropLast, d.getLast hne, (List.dropLast_concat_getLast hne).symm⟩
    rw [digs_append] at hu
    cases hx : digs 0 d' with
    | none => rw [hx] at hu; cases hu
    | some x =>
      rw [hx] at hu
      simp only [Option.bind_some, digs] at hu
      split at hu
      · rename_i hc
        have hu' : u = x * 10 + (c.toNat - 48) := (Option.some.inj hu).symm
        by_cases hd : d' = []
        · subst hd
          have hx0 : x = 0 := (Option.some.inj hx).symm
          subst hx0
          have hcc : 49 ≤ c.toNat := by simpa using hh
          refine ⟨by omega, ?_⟩
          rw [decDigits, dif_pos (by omega), hu']
          simp only [List.nil_append, List.cons.injEq, and_true]
          rw [show 48 + (0 * 10 + (c.toNat - 48)) = c.toNat by omega]
          exact UInt8.ofNat_toNat
        · rw [head_append hd] at hh
          obtain ⟨h1, h2⟩ := ih d' (by simp at hl; omega) hd hh x hx
          refine ⟨by omega, ?_⟩
          rw [decDigits, dif_neg (by omega), hu', show (x * 10 + (c.toNat - 48)) / 10 = x by omega, h2, show (x * 10 + (c.toNat - 48)) % 10 = c.toNat - 48 by omega, show 48 + (c.toNat - 48) = c.toNat by omega, UInt8.ofNat_toNat]
      · cases hu

theorem parse_digs (M : Nat) (hM : M ≤ 18446744073709551615) (d : List UInt8) : ∀ acc u, digs acc d = some u → u ≤ M → parseUintM M acc d = .ok u := by
  induction d with
  | nil => intro acc u h _; cases h; rfl
  | cons c r ih =>
    intro acc u h hu
    simp only [digs] at h
    split at h
    · rename_i hc
      have hge := digs_ge _ _ _ h
      simp only [parseUintM]
      rw [if_pos hc, if_neg (by omega), if_neg (by omega)]
      exact ih _ _ h hu
    · cases h

theorem dec_bound (u : Nat) (h : u ≤ 9223372036854775808) : (decDigits u).length ≤ 19 := by
  rw [decDigits_length]
  by_cases h0 : u = 0
  · subst h0; rw [nDigits_small (by decide)]; decide
  · have h1 : 1 ≤ u := by omega
    clear h0
    have key : ∀ (n v : Nat), v < 10 ^ (n + 1) → nDigits v ≤ n + 1 := by
      intro n
      induction n with
      | zero => intro v hv; rw [nDigits_small (by simpa using hv)]; decide
      | succ n ih =>
        intro v hv
        by_cases h10 : v < 10
        · rw [nDigits_small h10]; omega
        · rw [nDigits_big h10]
          have := ih (v / 10) (by rw [Nat.pow_succ] at hv; omega)
          omega
    exact key 18 u (by omega)

/-- The canonical spelling is what itoa writes. -/
theorem canon_itoa (v : Int) (h0 : -9223372036854775808 ≤ v) (h1 : v ≤ 9223372036854775807) : canon (itoa v) = some v := by
  unfold itoa
  by_cases hv : v < 0
  · rw [if_pos hv]
    have hu : 1 ≤ v.natAbs := by omega
    obtain ⟨a, b⟩ := dec_head v.natAbs hu
    have hl := dec_bound v.natAbs (by omega)
    have hne := dec_ne v.natAbs
    unfold canon
    rw [if_neg (by simp), List.headD_cons, if_pos rfl, List.tail_cons]
    unfold tailOf
    rw [if_neg (by rw [List.length_eq_zero_iff]; simp only [not_or]; exact ⟨hne, by omega, by omega, by omega⟩), digs_decDigits]
    simp only [if_true]
    rw [if_neg (by omega)]
    congr 1
    omega
  · rw [if_neg hv]
    by_cases hz : v = 0
    · subst hz
      rw [show (Int.toNat 0) = 0 from rfl, dec_zero]; rfl
    · have hu : 1 ≤ v.toNat := by omega
      obtain ⟨a, b⟩ := dec_head v.toNat hu
      have hl := dec_bound v.toNat (by omega)
      have hne := dec_ne v.toNat
      have h48 : decDigits v.toNat ≠ [48] := by intro e; rw [e] at a; exact absurd a (by decide)
      have h45 : ¬ (decDigits v.toNat).headD 0 = 45 := by intro e; rw [e] at a; exact absurd a (by decide)
      unfold canon
      rw [if_neg h48, if_neg h45]
      unfold tailOf
      rw [if_neg (by rw [List.length_eq_zero_iff]; simp only [not_or]; exact ⟨hne, by omega, by omega, by omega⟩), digs_decDigits]
      simp only [Bool.false_eq_true, if_false]
      rw [if_neg (by omega)]
      congr 1
      omega

theorem tail_inv {neg : Bool} {d : List UInt8} {v : Int} (h : tailOf neg d = some v) :
    ∃ u : Nat, 1 ≤ u ∧ decDigits u = d ∧ (if neg then u ≤ 9223372036854775808 ∧ v = -(u : Int) else u ≤ 9223372036854775807 ∧ v = u) := by
  unfold tailOf at h
  split at h
  · cases h
  · rename_i hc
    simp only [not_or] at hc
    obtain ⟨c0, c1, c2, c3⟩ := hc
    split at h
    · cases h
    · rename_i u hu
      obtain ⟨a, b⟩ := dec_of_digs d d.length rfl (fun e => c0 (by rw [e]; rfl)) (by omega) u hu
      refine ⟨u, a, b, ?_⟩
      cases neg with
      | true =>
        simp only [if_true] at h ⊢
        split at h
        · cases h
        · exact ⟨by omega, (Option.some.inj h).symm⟩
      | false =>
        simp only [Bool.false_eq_true, if_false] at h ⊢
        split at h
        · cases h
        · exact ⟨by omega, (Option.some.inj h).symm⟩

theorem canon_inv {l : List UInt8} {v : Int} (h : canon l = some v) : -9223372036854775808 ≤ v ∧ v ≤ 9223372036854775807 ∧ l = itoa v := by
  unfold canon at h
  split at h
  · rename_i e
    cases h
    exact ⟨by decide, by decide, e.trans itoa_zero.symm⟩
  · split at h
    · rename_i _ e
      obtain ⟨u, h1, h2, h3⟩ := tail_inv h
      simp only [if_true] at h3
      obtain ⟨h3, rfl⟩ := h3
      refine ⟨by omega, by omega, ?_⟩
      unfold itoa
      rw [if_pos (by omega), show (-(u : Int)).natAbs = u by omega, h2]
      cases l with
      | nil => simp at e
      | cons c r => simp only [List.headD_cons] at e; rw [e, List.tail_cons]
    · obtain ⟨u, h1, h2, h3⟩ := tail_inv h
      simp only [Bool.false_eq_true, if_false] at h3
      obtain ⟨h3, rfl⟩ := h3
      refine ⟨by omega, by omega, ?_⟩
      unfold itoa
      rw [if_neg (by omega), Int.toNat_natCast, h2]

theorem parse_dec (u : Nat) (hu : u ≤ 9223372036854775808) : parseUintB 64 (decDigits u) = .ok u := by
  unfold parseUintB
  rw [if_neg (dec_ne u)]
  exact parse_digs _ (by decide) _ _ _ (digs_decDigits u) (by omega)

theorem dec_head0 (u : Nat) : 48 ≤ ((decDigits u).headD 0).toNat := by
  by_cases h : u = 0
  · subst h; rw [dec_zero]; decide
  · have := dec_head u (by omega); omega

theorem parse_itoa (v : Int) (h0 : -9223372036854775808 ≤ v) (h1 : v ≤ 9223372036854775807) : parseIntB 64 (itoa v) = .ok v := by
  unfold itoa
  by_cases hv : v < 0
  · rw [if_pos hv]
    unfold parseIntB
    simp only
    rw [if_pos (Or.inr (by decide)), parse_dec _ (by omega)]
    simp only
    rw [if_neg (by simp), if_neg (by simp; omega), if_pos (by decide)]
    congr 1
    omega
  · rw [if_neg hv]
    have hh := dec_head0 v.toNat
    have hp := parse_dec v.toNat (by omega)
    unfold parseIntB
    cases hd : decDigits v.toNat with
    | nil => exact absurd hd (dec_ne _)
    | cons c r =>
      rw [hd] at hh hp
      simp only [List.headD_cons] at hh
      simp only
      rw [if_neg (by omega), hp]
      simp only
      rw [if_neg (by omega), if_neg (by omega), if_neg (by omega)]
      congr 1
      omega

theorem parse_range {l : List UInt8} {v : Int} (h : parseIntB 64 l = .ok v) : -9223372036854775808 ≤ v ∧ v ≤ 9223372036854775807 := by
  unfold parseIntB at h
  split at h
  · cases h
  · simp only at h
    split at h
    · cases h
    · cases h
    · split at h
      · cases h
      · split at h
        · cases h
        · rename_i u _ a b
          cases h
          split <;> omega

/-- parseID takes a string just where the hand-written model does. -/
theorem good_iff (l : List UInt8) (v : Int) : (parseIntB 64 l = .ok v ∧ itoa v = l) ↔ canon l = some v := by
  constructor
  · rintro ⟨h1, h2⟩
    obtain ⟨a, b⟩ := parse_range h1
    rw [← h2]
    exact canon_itoa v a b
  · intro h
    obtain ⟨a, b, rfl⟩ := canon_inv h
    exact ⟨parse_itoa v a b, rfl⟩

theorem itoa_ne_plus (v : Int) (r : List UInt8) : itoa v ≠ 43 :: r := by
  intro h
  unfold itoa at h
  split at h
  · have := (List.cons.inj h).1; exact absurd this (by decide)
  · have := dec_head0 v.toNat; rw [h, List.headD_cons] at this; exact absurd this (by decide)

theorem itoa_ne (v : Int) : itoa v ≠ [] := by
  unfold itoa
  split
  · exact List.cons_ne_nil _ _
  · exact dec_ne _

theorem itoa_ne_nought (v n : Int) : itoa v ≠ 48 :: itoa n := by
  intro h
  have hn := itoa_ne n
  unfold itoa at h
  split at h
  · have := (List.cons.inj h).1; exact absurd this (by decide)
  · by_cases hz : v.toNat = 0
    · rw [hz, decDigits, dif_pos (by decide)] at h
      exact hn (List.cons.inj h).2.symm
    · have := dec_head v.toNat (by omega)
      rw [h, List.headD_cons] at this
      exact absurd this.1 (by decide)
end Go.Proofs.YbulkbuigFmt.Plain
