/-
  The shape is sound.
-/
import Derived.Test.YbulkbuheE1
namespace Go.Proofs.Ybulkbuhe

section
variable {len : Nat} (h0 : 1 ≤ len) (hl : len ≤ 1024)
include h0 hl

/-- A node's fields, by its height and place. -/
theorem node_fields {n : Nat} (h1 : 1 ≤ n) (h2 : n < (shapeOf len).N) : ∃ hh k, hh ≤ topH len ∧ hh ≤ 3 ∧ n = off len hh + k ∧ k < lv len (hh + 1) ∧ (shapeOf len).cnt n = min 8 (lv len hh - 8 * k) ∧ (shapeOf len).leaf n = decide (hh = 0) ∧ (∀ i, (shapeOf len).ref n i = if hh = 0 then 8 * k + i else off len (hh - 1) + (8 * k + i)) ∧ (∀ i, (shapeOf len).s n i = min len ((8 * k + i) * pw hh)) ∧ (shapeOf len).ht n = hh := by
  obtain ⟨hh, k, a1, a2, a3, a4, a5⟩ := node_cases len n h0 hl h1 h2
  have a6 : hh ≤ 3 := by rcases topH_cases len with ⟨t, _⟩ | ⟨t, _⟩ | ⟨t, _⟩ | ⟨t, _⟩ <;> omega
  exact ⟨hh, k, a1, a6, a4, a5, by simp only [shapeOf, a2, a3], by simp only [shapeOf, a2], fun i => by simp only [shapeOf, a2, a3], fun i => by simp only [shapeOf, a2, a3], by simp only [shapeOf, a2]⟩
omit h0 hl in
theorem lv_iff (hh p : Nat) (h3 : hh ≤ 3) : p < lv len hh ↔ p * pw hh < len := by
  have hh4 : hh = 0 ∨ hh = 1 ∨ hh = 2 ∨ hh = 3 := by omega
  rcases hh4 with rfl | rfl | rfl | rfl <;> simp only [lv, pw] <;> omega
omit h0 hl in
theorem lv_next (hh : Nat) (k : Nat) : k < lv len (hh + 1) → 8 * k < lv len hh := by
  intro h
  have : lv len (hh + 1) = (lv len hh + 7) / 8 := rfl
  omega
omit h0 hl in
theorem lv_kid (hh p : Nat) : p < lv len hh → p / 8 < lv len (hh + 1) := by
  intro h
  have : lv len (hh + 1) = (lv len hh + 7) / 8 := rfl
  omega

theorem shape_ok : (shapeOf len).Ok := by
  have e0 : off len 0 = 1 := rfl
  have e1 : off len 1 = 1 + lv len 1 := rfl
  have e2 : off len 2 = 1 + lv len 1 + lv len 2 := rfl
  have e3 : off len 3 = 1 + lv len 1 + lv len 2 + lv len 3 := rfl
  have l0 : lv len 0 = len := rfl
  have l1 : lv len 1 = (len + 7) / 8 := rfl
  have l2 : lv len 2 = (lv len 1 + 7) / 8 := rfl
  have l3 : lv len 3 = (lv len 2 + 7) / 8 := rfl
  have l4 : lv len 4 = (lv len 3 + 7) / 8 := rfl
  have hN : (shapeOf len).N = off len (topH len) + 1 := rfl
  have hR : (shapeOf len).root = off len (topH len) := rfl
  have hL : (shapeOf len).len = len := rfl
  have ht3 : topH len ≤ 3 := by rcases topH_cases len with ⟨t, _⟩ | ⟨t, _⟩ | ⟨t, _⟩ | ⟨t, _⟩ <;> omega
  have htop : lv len (topH len + 1) = 1 := by
    rcases topH_cases len with ⟨t, t1⟩ | ⟨t, t1, t2⟩ | ⟨t, t1, t2, t3⟩ | ⟨t, t1, t2, t3⟩ <;> rw [t]
    · show lv len 1 = 1; omega
    · show lv len 2 = 1; omega
    · show lv len 3 = 1; omega
    · show lv len 4 = 1; omega
  have hoff : off len (topH len) ≤ 200 ∧ 1 ≤ off len (topH len) := by
    rcases topH_cases len with ⟨t, t1⟩ | ⟨t, t1, t2⟩ | ⟨t, t1, t2, t3⟩ | ⟨t, t1, t2, t3⟩ <;> rw [t] <;> omega
  have hlt : ∀ n i, 1 ≤ n → n < (shapeOf len).N → i < (shapeOf len).cnt n → (shapeOf len).s n i < (shapeOf len).s n (i + 1) := fun n i h1 h2 hi => by
    obtain ⟨hh, k, a1, a6, a4, a5, f1, f2, f3, f4, f5⟩ := node_fields h0 hl h1 h2
    rw [f1] at hi
    have hp := (lv_iff (len := len) hh (8 * k + i) a6).1 (by omega)
    have hpw : 1 ≤ pw hh := by
      have hh4 : hh = 0 ∨ hh = 1 ∨ hh = 2 ∨ hh = 3 := by omega
      rcases hh4 with rfl | rfl | rfl | rfl <;> simp only [pw] <;> omega
    have e : (8 * k + (i + 1)) * pw hh = (8 * k + i) * pw hh + pw hh := by rw [show 8 * k + (i + 1) = (8 * k + i) + 1 by omega, Nat.succ_mul]
    rw [f4, f4, e]
    generalize (8 * k + i) * pw hh = X at hp ⊢
    omega
  have hroot := node_at len (topH len) 0 ht3 (by omega)
  rw [Nat.add_zero] at hroot
  have hrN : 1 ≤ (shapeOf len).root ∧ (shapeOf len).root < (shapeOf len).N := ⟨by rw [hR]; omega, by rw [hR, hN]; omega⟩
  refine ⟨by rw [hN]; omega, by rw [hL]; exact hl, hrN.1, rfl, fun n h1 h2 => ?_, fun n h1 h2 => ?_, hlt, fun n i h1 h2 hi => ?_, fun n i h1 h2 hi hlf => ?_, fun n i h1 h2 hi hlf => ?_, fun j hj => ?_, fun n i h1 h2 hi hlf => ?_, fun n i n' i' h1 h2 hi hlf h1' h2' hi' hlf' he => ?_, ?_, ?_, fun n => ?_⟩
  · obtain ⟨hh, k, a1, a6, a4, a5, f1, f2, f3, f4, f5⟩ := node_fields h0 hl h1 h2
    rw [f1]
    have := lv_next (len := len) hh k a5
    omega
  · obtain ⟨hh, k, a1, a6, a4, a5, f1, f2, f3, f4, f5⟩ := node_fields h0 hl h1 h2
    rw [f1]; omega
  · obtain ⟨hh, k, a1, a6, a4, a5, f1, f2, f3, f4, f5⟩ := node_fields h0 hl h1 h2
    rw [f4, hL]; omega
  · obtain ⟨hh, k, a1, a6, a4, a5, f1, f2, f3, f4, f5⟩ := node_fields h0 hl h1 h2
    rw [f2, decide_eq_true_iff] at hlf
    subst hlf
    rw [f1] at hi
    rw [f3, if_pos rfl, f4, f4]
    simp only [pw, Nat.mul_one]
    omega
  · obtain ⟨hh, k, a1, a6, a4, a5, f1, f2, f3, f4, f5⟩ := node_fields h0 hl h1 h2
    rw [f2, decide_eq_true_iff] at hlf
    subst hlf
    rw [f1] at hi
    rw [f4]
    simp only [pw, Nat.mul_one]
    omega
  · have hj' : j < len := hj
    have hk : j / 8 < lv len 1 := by omega
    have hn := node_at len 0 (j / 8) (by omega) hk
    have hb := node_lt len 0 (j / 8) h0 hl (Nat.zero_le _) hk
    rw [e0] at hn hb
    refine ⟨by rw [hN]; exact hb.2, ?_, ?_, ?_⟩
    · simp only [shapeOf, hn.1, decide_true]
    · simp only [shapeOf, hn.1, hn.2]; omega
    · simp only [shapeOf, hn.1, hn.2, pw, Nat.mul_one]; omega
  · obtain ⟨hh, k, a1, a6, a4, a5, f1, f2, f3, f4, f5⟩ := node_fields h0 hl h1 h2
    rw [f2, decide_eq_false_iff_not] at hlf
    rw [f1] at hi
    obtain ⟨g, rfl⟩ : ∃ g, hh = g + 1 := ⟨hh - 1, by omega⟩
    have hp : 8 * k + i < lv len (g + 1) := by omega
    have hc := node_at len g (8 * k + i) (by omega) hp
    have hb := node_lt len g (8 * k + i) h0 hl (by omega) hp
    have hr : (shapeOf len).ref n i = off len g + (8 * k + i) := by rw [f3, if_neg (by omega)]; rfl
    rw [hr]
    have hg3 : g = 0 ∨ g = 1 ∨ g = 2 := by omega
    have hs : ∀ i', (shapeOf len).s (off len g + (8 * k + i)) i' = min len ((8 * (8 * k + i) + i') * pw g) := fun i' => by simp only [shapeOf, hc.1, hc.2]
    have hcn : (shapeOf len).cnt (off len g + (8 * k + i)) = min 8 (lv len g - 8 * (8 * k + i)) := by simp only [shapeOf, hc.1, hc.2]
    have hht : (shapeOf len).ht (off len g + (8 * k + i)) = g := by simp only [shapeOf, hc.1]
    refine ⟨hb.1, ?_, ?_, ?_, by rw [f5, hht]⟩
    · rw [a4]
      have : off len (g + 1) = off len g + lv len (g + 1) := rfl
      omega
    · rw [hs, f4]
      rcases hg3 with rfl | rfl | rfl <;> simp only [pw] <;> omega
    · rw [hs, hcn, f4]
      rcases hg3 with rfl | rfl | rfl <;> simp only [pw, lv] at hp ⊢ <;> omega
  · obtain ⟨hh, k, a1, a6, a4, a5, f1, f2, f3, f4, f5⟩ := node_fields h0 hl h1 h2
    obtain ⟨hh', k', a1', a6', a4', a5', f1', f2', f3', f4', f5'⟩ := node_fields h0 hl h1' h2'
    rw [f2, decide_eq_false_iff_not] at hlf
    rw [f2', decide_eq_false_iff_not] at hlf'
    rw [f1] at hi
    rw [f1'] at hi'
    rw [f3, f3', if_neg hlf, if_neg hlf'] at he
    obtain ⟨g, rfl⟩ : ∃ g, hh = g + 1 := ⟨hh - 1, by omega⟩
    obtain ⟨g', rfl⟩ : ∃ g', hh' = g' + 1 := ⟨hh' - 1, by omega⟩
    have he' : off len g + (8 * k + i) = off len g' + (8 * k' + i') := he
    have hc := node_at len g (8 * k + i) (by omega) (by omega)
    have hc' := node_at len g' (8 * k' + i') (by omega) (by omega)
    rw [← he'] at hc'
    have eg : g = g' := hc.1.symm.trans hc'.1
    subst eg
    have ep := hc.2.symm.trans hc'.2
    have ek : k = k' := by omega
    subst ek
    exact ⟨a4.trans a4'.symm, by omega⟩
  · show min len ((8 * posn len (off len (topH len)) + 0) * pw (hgt len (off len (topH len)))) = 0
    rw [hroot.2]; simp
  · show min len ((8 * posn len (off len (topH len)) + min 8 (lv len (hgt len (off len (topH len))) - 8 * posn len (off len (topH len)))) * pw (hgt len (off len (topH len)))) = len
    rw [hroot.1, hroot.2]
    rcases topH_cases len with ⟨t, t1⟩ | ⟨t, t1, t2⟩ | ⟨t, t1, t2, t3⟩ | ⟨t, t1, t2, t3⟩ <;> rw [t] <;> simp only [pw] <;> omega
  · show hgt len n ≤ 8
    unfold hgt
    split
    · omega
    · split
      · omega
      · split <;> omega
end
end Go.Proofs.Ybulkbuhe
