/-
  A cheaper way to the Bool that a quiet walk of a drawn region asks: each pair of operations once.
-/
import Derived.BigQuiet
namespace Go.Proofs.YbulkbuheDoor

def chk (ops : Array Oper) : Nat → List Oper → Bool
  | _, [] => true
  | k, o :: rest => (o.after.all fun e => !Region.binds .any e || decide (e.on < k)) && (rest.all fun oj => oj.after.any (fun e => Region.binds .any e && e.on == k) || o.apart ops oj) && chk ops (k + 1) rest

theorem lexFrom_of (ops : Array Oper) : ∀ (l : List Oper) (k : Nat) (L : Array Bool), (∀ j, l[j]? = ops[k + j]?) → L.size = ops.size → (∀ (b : Bool) (j : Nat), j < ops.size → L.getD j b = decide (j < k)) → k + l.length = ops.size → chk ops k l = true →
    Region.lexFrom .any ops l.length k L = true
  | [], k, L, hl, hsz, hL, hk, _ => by
    have hk' : k = ops.size := by simpa using hk
    simp only [List.length_nil, Region.lexFrom]
    rw [List.isEmpty_iff]
    apply List.eq_nil_iff_forall_not_mem.2
    intro j hj
    obtain ⟨h0, o, ho, _⟩ := mem_ready.1 hj
    have hlt : j < ops.size := (Array.getElem?_eq_some_iff.1 ho).1
    rw [hL true j hlt] at h0
    simp at h0
    omega
  | o :: l, k, L, hl, hsz, hL, hk, h => by
    have hk' : k < ops.size := by simp only [List.length_cons] at hk; omega
    have h0 : ops[k]? = some o := by simpa using (hl 0).symm
    simp only [chk, Bool.and_eq_true] at h
    obtain ⟨⟨ha, hp⟩, hrest⟩ := h
    simp only [List.length_cons, Region.lexFrom, Bool.and_eq_true]
    refine ⟨⟨?_, ?_⟩, ?_⟩
    · rw [List.contains_iff_mem]
      refine mem_ready.2 ⟨by rw [hL true k hk']; simp, o, h0, fun e he hb => ?_⟩
      have := Array.all_eq_true_iff_forall_mem.1 ha e he
      rw [hb] at this
      simp at this
      rw [hL false e.on (by omega)]
      simpa using this
    · simp only [Region.free, h0, List.all_eq_true, List.mem_range]
      intro j hj
      rcases Nat.lt_trichotomy j k with hlt | heq | hgt
      · rw [hL true j hj]; simp [hlt]
      · simp [heq]
      · have hoj : ops[j]? = some ops[j] := Array.getElem?_eq_getElem hj
        rw [hoj]
        have hmem : ops[j] ∈ l := by
          have := hl (j - k)
          rw [show k + (j - k) = j by omega, hoj, show j - k = (j - k - 1) + 1 by omega, List.getElem?_cons_succ] at this
          exact List.mem_of_getElem? this
        have := List.all_eq_true.1 hp _ hmem
        simp only [this, Bool.or_true]
    · refine lexFrom_of ops l (k + 1) _ (fun j => ?_) (by simpa using hsz) (fun b j hj => ?_) (by simp only [List.length_cons] at hk; omega) hrest
      · have := hl (j + 1)
        rw [List.getElem?_cons_succ] at this
        rw [this]
        congr 1
        omega
      · by_cases hjk : k = j
        · subst hjk
          rw [Array.getD_eq_getD_getElem?, Array.getElem?_setIfInBounds_self_of_lt (by omega)]
          simp
        · rw [Array.getD_eq_getD_getElem?, Array.getElem?_setIfInBounds_ne hjk, ← Array.getD_eq_getD_getElem?, hL b j hj]
          congr 1
          apply propext
          omega

theorem lexB_of (l : List Oper) (hs : Region.noSelect l.toArray = true) (h : chk l.toArray 0 l = true) : Region.lexB .any l.toArray = true := by
  unfold Region.lexB
  rw [hs, Bool.true_and]
  have := lexFrom_of l.toArray l 0 (Array.replicate l.toArray.size false) (fun j => by simp) (by simp) (fun b j hj => by
    rw [Array.getD_eq_getD_getElem?, Array.getElem?_replicate, if_pos (by simpa using hj)]; simp) (by simp) h
  simpa using this
end Go.Proofs.YbulkbuheDoor
