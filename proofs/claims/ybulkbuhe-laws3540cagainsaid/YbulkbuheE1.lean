/-
  The shape of the tree that the build lays: complete, eight entries a node.
-/
import Derived.Test.YbulkbuheB1
namespace Go.Proofs.Ybulkbuhe

/-- The entries at height h; the number of the first node at height h; the items an entry covers. -/
def lv (len : Nat) : Nat → Nat
  | 0 => len
  | h + 1 => (lv len h + 7) / 8
def off (len : Nat) : Nat → Nat
  | 0 => 1
  | h + 1 => off len h + lv len (h + 1)
def pw : Nat → Nat
  | 0 => 1
  | h + 1 => 8 * pw h
/-- The height of node n. -/
def hgt (len n : Nat) : Nat := if n < off len 1 then 0 else if n < off len 2 then 1 else if n < off len 3 then 2 else 3
def topH (len : Nat) : Nat := if lv len 1 ≤ 1 then 0 else if lv len 2 ≤ 1 then 1 else if lv len 3 ≤ 1 then 2 else 3
def posn (len n : Nat) : Nat := n - off len (hgt len n)

def shapeOf (len : Nat) : Shape where
  N := off len (topH len) + 1
  len := len
  root := off len (topH len)
  cnt := fun n => min 8 (lv len (hgt len n) - 8 * posn len n)
  leaf := fun n => decide (hgt len n = 0)
  ref := fun n i => if hgt len n = 0 then 8 * posn len n + i else off len (hgt len n - 1) + (8 * posn len n + i)
  s := fun n i => min len ((8 * posn len n + i) * pw (hgt len n))
  ht := hgt len

/-- The height and the place of a node, in plain numbers. -/
theorem node_cases (len n : Nat) (h0 : 1 ≤ len) (hl : len ≤ 1024) (h1 : 1 ≤ n) (h2 : n < off len (topH len) + 1) :
    ∃ hh k, hh ≤ topH len ∧ hgt len n = hh ∧ posn len n = k ∧ n = off len hh + k ∧ k < lv len (hh + 1) := by
  have e1 : off len 1 = 1 + lv len 1 := rfl
  have e2 : off len 2 = 1 + lv len 1 + lv len 2 := rfl
  have e3 : off len 3 = 1 + lv len 1 + lv len 2 + lv len 3 := rfl
  have e0 : off len 0 = 1 := rfl
  have l1 : lv len 1 = (len + 7) / 8 := rfl
  have l2 : lv len 2 = (lv len 1 + 7) / 8 := rfl
  have l3 : lv len 3 = (lv len 2 + 7) / 8 := rfl
  have l4 : lv len 4 = (lv len 3 + 7) / 8 := rfl
  have ht : (topH len = 0 ∧ lv len 1 ≤ 1) ∨ (topH len = 1 ∧ 1 < lv len 1 ∧ lv len 2 ≤ 1) ∨ (topH len = 2 ∧ 1 < lv len 1 ∧ 1 < lv len 2 ∧ lv len 3 ≤ 1) ∨ (topH len = 3 ∧ 1 < lv len 1 ∧ 1 < lv len 2 ∧ 1 < lv len 3) := by
    unfold topH
    split
    · exact .inl ⟨rfl, by assumption⟩
    · split
      · exact .inr (.inl ⟨rfl, by omega, by assumption⟩)
      · split
        · exact .inr (.inr (.inl ⟨rfl, by omega, by omega, by assumption⟩))
        · exact .inr (.inr (.inr ⟨rfl, by omega, by omega, by omega⟩))
  have hg : (hgt len n = 0 ∧ n < off len 1) ∨ (hgt len n = 1 ∧ off len 1 ≤ n ∧ n < off len 2) ∨ (hgt len n = 2 ∧ off len 2 ≤ n ∧ n < off len 3) ∨ (hgt len n = 3 ∧ off len 3 ≤ n) := by
    unfold hgt
    split
    · exact .inl ⟨rfl, by assumption⟩
    · split
      · exact .inr (.inl ⟨rfl, by omega, by assumption⟩)
      · split
        · exact .inr (.inr (.inl ⟨rfl, by omega, by assumption⟩))
        · exact .inr (.inr (.inr ⟨rfl, by omega⟩))
  unfold posn
  rcases ht with ⟨t, t1⟩ | ⟨t, t1, t2⟩ | ⟨t, t1, t2, t3⟩ | ⟨t, t1, t2, t3⟩ <;> rw [t] at h2 ⊢ <;> rcases hg with ⟨g, g1⟩ | ⟨g, g1, g2⟩ | ⟨g, g1, g2⟩ | ⟨g, g1⟩ <;> rw [g]
  all_goals first
    | (exfalso; omega)
    | exact ⟨0, n - off len 0, by omega, rfl, rfl, by omega, by show n - off len 0 < lv len 1; omega⟩
    | exact ⟨1, n - off len 1, by omega, rfl, rfl, by omega, by show n - off len 1 < lv len 2; omega⟩
    | exact ⟨2, n - off len 2, by omega, rfl, rfl, by omega, by show n - off len 2 < lv len 3; omega⟩
    | exact ⟨3, n - off len 3, by omega, rfl, rfl, by omega, by show n - off len 3 < lv len 4; omega⟩

theorem topH_cases (len : Nat) : (topH len = 0 ∧ lv len 1 ≤ 1) ∨ (topH len = 1 ∧ 1 < lv len 1 ∧ lv len 2 ≤ 1) ∨ (topH len = 2 ∧ 1 < lv len 1 ∧ 1 < lv len 2 ∧ lv len 3 ≤ 1) ∨ (topH len = 3 ∧ 1 < lv len 1 ∧ 1 < lv len 2 ∧ 1 < lv len 3) := by
  unfold topH
  split
  · exact .inl ⟨rfl, by assumption⟩
  · split
    · exact .inr (.inl ⟨rfl, by omega, by assumption⟩)
    · split
      · exact .inr (.inr (.inl ⟨rfl, by omega, by omega, by assumption⟩))
      · exact .inr (.inr (.inr ⟨rfl, by omega, by omega, by omega⟩))
theorem node_at (len hh k : Nat) (h3 : hh ≤ 3) (hk : k < lv len (hh + 1)) : hgt len (off len hh + k) = hh ∧ posn len (off len hh + k) = k := by
  have e0 : off len 0 = 1 := rfl
  have e1 : off len 1 = 1 + lv len 1 := rfl
  have e2 : off len 2 = 1 + lv len 1 + lv len 2 := rfl
  have e3 : off len 3 = 1 + lv len 1 + lv len 2 + lv len 3 := rfl
  have hh4 : hh = 0 ∨ hh = 1 ∨ hh = 2 ∨ hh = 3 := by omega
  have key : hgt len (off len hh + k) = hh := by
    unfold hgt
    rcases hh4 with rfl | rfl | rfl | rfl
    · have hk' : k < lv len 1 := hk
      rw [if_pos (by omega)]
    · have hk' : k < lv len 2 := hk
      rw [if_neg (by omega), if_pos (by omega)]
    · have hk' : k < lv len 3 := hk
      rw [if_neg (by omega), if_neg (by omega), if_pos (by omega)]
    · rw [if_neg (by omega), if_neg (by omega), if_neg (by omega)]
  refine ⟨key, ?_⟩
  unfold posn
  rw [key]; omega
theorem node_lt (len hh k : Nat) (h0 : 1 ≤ len) (hl : len ≤ 1024) (h3 : hh ≤ topH len) (hk : k < lv len (hh + 1)) : 1 ≤ off len hh + k ∧ off len hh + k < off len (topH len) + 1 := by
  have e0 : off len 0 = 1 := rfl
  have e1 : off len 1 = 1 + lv len 1 := rfl
  have e2 : off len 2 = 1 + lv len 1 + lv len 2 := rfl
  have e3 : off len 3 = 1 + lv len 1 + lv len 2 + lv len 3 := rfl
  have l1 : lv len 1 = (len + 7) / 8 := rfl
  have l2 : lv len 2 = (lv len 1 + 7) / 8 := rfl
  have l3 : lv len 3 = (lv len 2 + 7) / 8 := rfl
  have l4 : lv len 4 = (lv len 3 + 7) / 8 := rfl
  have hh4 : hh = 0 ∨ hh = 1 ∨ hh = 2 ∨ hh = 3 := by rcases topH_cases len with ⟨t, _⟩ | ⟨t, _⟩ | ⟨t, _⟩ | ⟨t, _⟩ <;> omega
  rcases topH_cases len with ⟨t, t1⟩ | ⟨t, t1, t2⟩ | ⟨t, t1, t2, t3⟩ | ⟨t, t1, t2, t3⟩ <;> rw [t] at h3 ⊢ <;> rcases hh4 with rfl | rfl | rfl | rfl
  all_goals first
    | (exfalso; omega)
    | (have hk' : k < lv len 1 := hk; omega)
    | (have hk' : k < lv len 2 := hk; omega)
    | (have hk' : k < lv len 3 := hk; omega)
    | (have hk' : k < lv len 4 := hk; omega)
end Go.Proofs.Ybulkbuhe
