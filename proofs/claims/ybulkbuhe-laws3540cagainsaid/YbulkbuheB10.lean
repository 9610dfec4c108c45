/-
  Counting visits.
-/
import Derived.Test.YbulkbuheB9
namespace Go.Proofs.Ybulkbuhe
open Go.RowKit Fl

def cntF (tr : List Vis) (n : Nat) : Nat := tr.countP fun x => !x.again && decide (x.j < n)
def cntS (tr : List Vis) (n : Nat) : Nat := tr.countP fun x => x.again && decide (x.j < n)
theorem cntF_zero (tr : List Vis) : cntF tr 0 = 0 := by
  unfold cntF
  rw [List.countP_eq_zero]
  intro x _
  simp
theorem cntS_zero (tr : List Vis) : cntS tr 0 = 0 := by
  unfold cntS
  rw [List.countP_eq_zero]
  intro x _
  simp
theorem cntF_succ (tr : List Vis) (n : Nat) : cntF tr (n + 1) = cntF tr n + fstN tr n := by
  unfold cntF fstN fstB
  induction tr with
  | nil => rfl
  | cons x tr ih =>
    rw [List.countP_cons, List.countP_cons, List.countP_cons, ih]
    cases x.again with
    | true => simp
    | false =>
      simp only [Bool.not_false, Bool.true_and, decide_eq_true_eq]
      by_cases h1 : x.j < n
      · rw [if_pos (by omega), if_pos h1, if_neg (by omega)]; omega
      · by_cases h2 : x.j = n
        · rw [if_pos (by omega), if_neg h1, if_pos h2]; omega
        · rw [if_neg (by omega), if_neg h1, if_neg h2]; omega
theorem cntS_succ (tr : List Vis) (n : Nat) : cntS tr (n + 1) = cntS tr n + sndN tr n := by
  unfold cntS sndN sndB
  induction tr with
  | nil => rfl
  | cons x tr ih =>
    rw [List.countP_cons, List.countP_cons, List.countP_cons, ih]
    cases x.again with
    | false => simp
    | true =>
      simp only [Bool.true_and, decide_eq_true_eq]
      by_cases h1 : x.j < n
      · rw [if_pos (by omega), if_pos h1, if_neg (by omega)]; omega
      · by_cases h2 : x.j = n
        · rw [if_pos (by omega), if_neg h1, if_pos h2]; omega
        · rw [if_neg (by omega), if_neg h1, if_neg h2]; omega
theorem cntF_all (tr : List Vis) (n : Nat) (h : ∀ x ∈ tr, x.j < n) : firsts tr = cntF tr n := by
  unfold firsts cntF
  apply List.countP_congr
  intro x hx
  simp [h x hx]
theorem Good.lt {len : Nat} {vals ext : Nat → Int} {tr : List Vis} (g : Good len vals ext tr) : ∀ x ∈ tr, x.j < len := fun x hx => by
  obtain ⟨pre, post, e⟩ := List.append_of_mem hx
  exact (g pre x post e).lt
theorem cntF_le (tr : List Vis) (h : ∀ j, fstN tr j ≤ 1) : ∀ n, cntF tr n ≤ n := by
  intro n
  induction n with
  | zero => rw [cntF_zero]; exact Nat.le_refl _
  | succ n ih => rw [cntF_succ]; have := h n; omega
theorem Inv.bound {h : Shape} {key bar : Int} {vals ext : Nat → Int} {q : List Un} {tr : List Vis} {sm : Nat → Nat → Int} {b : Nat} (I : Inv h key bar vals ext q tr sm b) (o : h.Ok) : b ≤ wts h q + 1024 := by
  have h1 := I.bnd
  have h2 : lfs h q ≤ q.length := List.countP_le_length
  have h3 := wts_len o q I.pos
  have h4 := cntF_le tr (fun j => by have := I.one j; omega) h.len
  rw [← cntF_all tr h.len I.good.lt] at h4
  have := o.lens
  omega
end Go.Proofs.Ybulkbuhe
