/-
  leastFirst in plain words: what holds ahead of each round.
-/
import Derived.Test.YbulkbuheB2
namespace Go.Proofs.Ybulkbuhe
open Go.RowKit Fl

/-- A node stepped down into, from entry i of the node above. -/
structure Stp where
  n : Nat
  above : Nat
  i : Nat

def covers (h : Shape) (j : Nat) (u : Un) : Bool := !u.again && decide (h.s u.n u.i ≤ j ∧ j < h.s u.n (u.i + 1))
def agains (h : Shape) (j : Nat) (u : Un) : Bool := u.again && decide (h.s u.n u.i = j)
def fstB (j : Nat) (x : Vis) : Bool := !x.again && decide (x.j = j)
def sndB (j : Nat) (x : Vis) : Bool := x.again && decide (x.j = j)
def cov (h : Shape) (q : List Un) (j : Nat) : Nat := q.countP (covers h j)
def agn (h : Shape) (q : List Un) (j : Nat) : Nat := q.countP (agains h j)
def fstN (tr : List Vis) (j : Nat) : Nat := tr.countP (fstB j)
def sndN (tr : List Vis) (j : Nat) : Nat := tr.countP (sndB j)
def lfs (h : Shape) (q : List Un) : Nat := q.countP fun u => !u.again && h.leaf u.n
def firsts (tr : List Vis) : Nat := tr.countP fun x => !x.again
def wt (h : Shape) (u : Un) : Nat := if u.again = true then 1 else (h.ht u.n + 2) * (h.s u.n (u.i + 1) - h.s u.n u.i)
def wts (h : Shape) : List Un → Nat
  | [] => 0
  | u :: q => wt h u + wts h q
theorem wts_append (h : Shape) (a b : List Un) : wts h (a ++ b) = wts h a + wts h b := by
  induction a with
  | nil => simp [wts]
  | cons x a ih => simp only [List.cons_append, wts, ih]; omega
theorem wts_perm (h : Shape) {a b : List Un} (p : List.Perm a b) : wts h a = wts h b := by
  induction p with
  | nil => rfl
  | cons x _ ih => simp only [wts, ih]
  | swap x y l => simp only [wts]; omega
  | trans _ _ i1 i2 => exact i1.trans i2

/-- What a visit wants of those ahead of it. -/
structure Step (len : Nat) (vals ext : Nat → Int) (pre : List Vis) (x : Vis) : Prop where
  lt : x.j < len
  le : ∀ y ∈ pre, y.v ≤ x.v
  first : x.again = false → fstN pre x.j = 0 ∧ x.v = vals x.j
  again : x.again = true → fstN pre x.j = 1 ∧ sndN pre x.j = 0 ∧ x.v = vals x.j + ext x.j ∧ 0 < ext x.j
def Good (len : Nat) (vals ext : Nat → Int) (l : List Vis) : Prop := ∀ pre x post, l = pre ++ x :: post → Step len vals ext pre x
theorem Good.nil (len : Nat) (vals ext : Nat → Int) : Good len vals ext [] := fun pre x post e => by
  have := congrArg List.length e
  simp at this
theorem Good.snoc {len : Nat} {vals ext : Nat → Int} {l : List Vis} {x : Vis} (g : Good len vals ext l) (s : Step len vals ext l x) : Good len vals ext (l ++ [x]) := by
  intro pre y post e
  rcases List.eq_nil_or_concat post with hp | ⟨post', z, hp⟩
  · subst hp
    have h1 : l ++ [x] = pre ++ [y] := e
    obtain ⟨h2, h3⟩ := List.append_inj' h1 rfl
    cases h3
    rw [← h2]; exact s
  · rw [hp] at e
    have h1 : l ++ [x] = (pre ++ y :: post') ++ [z] := by rw [e]; simp
    obtain ⟨h2, _⟩ := List.append_inj' h1 rfl
    exact g pre y post' h2
theorem Good.last {len : Nat} {vals ext : Nat → Int} {l : List Vis} {x : Vis} (g : Good len vals ext (l ++ [x])) : Step len vals ext l x := g l x [] rfl

section
variable (h : Shape) (sm : Nat → Nat → Int) (key bar : Int) (m : Nat)
theorem mem_newsTo (c : Nat) (u : Un) : u ∈ newsTo h sm key bar m c ↔ ∃ i, i < c ∧ pick h sm key bar m i = true ∧ u = ⟨sm m i, m, i, false⟩ := by
  unfold newsTo
  rw [List.mem_map]
  constructor
  · rintro ⟨i, hi, rfl⟩
    rw [List.mem_filter, List.mem_range] at hi
    exact ⟨i, hi.1, hi.2, rfl⟩
  · rintro ⟨i, hi, hp, rfl⟩
    exact ⟨i, by rw [List.mem_filter, List.mem_range]; exact ⟨hi, hp⟩, rfl⟩
theorem news_ag (c j : Nat) : agn h (newsTo h sm key bar m c) j = 0 := by
  unfold agn
  rw [List.countP_eq_zero]
  intro u hu
  obtain ⟨i, _, _, rfl⟩ := (mem_newsTo h sm key bar m c u).1 hu
  simp [agains]
theorem news_lfs (c : Nat) : lfs h (newsTo h sm key bar m c) = if h.leaf m = true then (newsTo h sm key bar m c).length else 0 := by
  unfold lfs
  cases hl : h.leaf m with
  | true =>
    rw [if_pos rfl, List.countP_eq_length]
    intro u hu
    obtain ⟨i, _, _, rfl⟩ := (mem_newsTo h sm key bar m c u).1 hu
    simp [hl]
  | false =>
    rw [if_neg (by simp), List.countP_eq_zero]
    intro u hu
    obtain ⟨i, _, _, rfl⟩ := (mem_newsTo h sm key bar m c u).1 hu
    simp [hl]
variable (o : h.Ok) (h1 : 1 ≤ m) (h2 : m < h.N)
include o h1 h2
theorem news_cov (j : Nat) : ∀ c, c ≤ h.cnt m → cov h (newsTo h sm key bar m c) j ≤ if h.s m 0 ≤ j ∧ j < h.s m c then 1 else 0 := by
  intro c
  induction c with
  | zero => intro _; simp [newsTo, cov]
  | succ c ih =>
    intro hc
    have ih' := ih (by omega)
    have hle := o.le h1 h2 (Nat.zero_le c) (by omega)
    have hlt := o.lt m c h1 h2 (by omega)
    cases hp : pick h sm key bar m c with
    | false =>
      rw [newsTo_skip _ _ _ _ _ _ hp]
      refine Nat.le_trans ih' ?_
      by_cases e : h.s m 0 ≤ j ∧ j < h.s m c
      · rw [if_pos e, if_pos ⟨e.1, by omega⟩]; exact Nat.le_refl _
      · rw [if_neg e]; exact Nat.zero_le _
    | true =>
      rw [newsTo_push _ _ _ _ _ _ hp]
      unfold cov at ih' ⊢
      rw [List.countP_append, List.countP_singleton]
      by_cases e : h.s m 0 ≤ j ∧ j < h.s m c
      · rw [if_pos e] at ih'
        rw [if_pos (show h.s m 0 ≤ j ∧ j < h.s m (c + 1) from ⟨e.1, by omega⟩)]
        have : covers h j ⟨sm m c, m, c, false⟩ = false := by
          unfold covers
          simp only [Bool.not_false, Bool.true_and, decide_eq_false_iff_not]
          omega
        rw [this]; simpa using ih'
      · rw [if_neg e] at ih'
        by_cases e2 : covers h j ⟨sm m c, m, c, false⟩ = true
        · have e3 : h.s m c ≤ j ∧ j < h.s m (c + 1) := by
            unfold covers at e2
            simpa using e2
          rw [if_pos (show h.s m 0 ≤ j ∧ j < h.s m (c + 1) from ⟨by omega, e3.2⟩), e2]
          simpa using ih'
        · rw [Bool.not_eq_true] at e2
          rw [e2]
          refine Nat.le_trans (show _ ≤ 0 by simpa using ih') (Nat.zero_le _)
omit o h1 h2 in
theorem news_cov1 (j i c : Nat) (hi : i < c) (hp : pick h sm key bar m i = true) (a : h.s m i ≤ j) (b : j < h.s m (i + 1)) : 1 ≤ cov h (newsTo h sm key bar m c) j := by
  unfold cov
  refine List.countP_pos_iff.2 ⟨⟨sm m i, m, i, false⟩, (mem_newsTo h sm key bar m c _).2 ⟨i, hi, hp, rfl⟩, ?_⟩
  unfold covers
  simp [a, b]
theorem news_wts : ∀ c, c ≤ h.cnt m → wts h (newsTo h sm key bar m c) ≤ (h.ht m + 2) * (h.s m c - h.s m 0) := by
  intro c
  induction c with
  | zero => intro _; simp [newsTo, wts]
  | succ c ih =>
    intro hc
    have ih' := ih (by omega)
    have hle := o.le h1 h2 (Nat.zero_le c) (by omega)
    have hlt := o.lt m c h1 h2 (by omega)
    have e : h.s m (c + 1) - h.s m 0 = (h.s m c - h.s m 0) + (h.s m (c + 1) - h.s m c) := by omega
    rw [e, Nat.mul_add]
    cases hp : pick h sm key bar m c with
    | false => rw [newsTo_skip _ _ _ _ _ _ hp]; omega
    | true =>
      rw [newsTo_push _ _ _ _ _ _ hp, wts_append]
      have : wts h [⟨sm m c, m, c, false⟩] = (h.ht m + 2) * (h.s m (c + 1) - h.s m c) := by simp [wts, wt]
      omega
end
end Go.Proofs.Ybulkbuhe
