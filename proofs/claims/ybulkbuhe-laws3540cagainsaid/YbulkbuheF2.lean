/-
  LawS3540COrder: what its own loops see.
-/
import Derived.Test.YbulkbuheF1
namespace Go.Proofs.Ybulkbuhe
open Go.RowKit Fl

section
variable {w : World} {b : Nat} {v0 v : Value} {t : TypeId}
theorem new_cell (hb : b = w.heap.size) : ((w.alloc (.cells #[v0] t)).setCell ⟨b, 0, none⟩ v).cell? ⟨b, 0, none⟩ = some v := by
  subst hb
  exact World.cell?_setCell_same _ _ _ (u := v0) (by rw [World.cell?_alloc_new]; rfl)
theorem new_chg (hb : b = w.heap.size) : Chg (fun _ => False) w ((w.alloc (.cells #[v0] t)).setCell ⟨b, 0, none⟩ v) :=
  (Chg.alloc (fun _ => False) w _).trans (Chg.setCell (S := fun k => k = b) _ ⟨b, 0, none⟩ v rfl) (fun k hk e => by omega)
theorem new_size : ((w.alloc (.cells #[v0] t)).setCell ⟨b, 0, none⟩ v).heap.size = w.heap.size + 1 := by simp [World.setCell]
theorem new_soft (hb : b = w.heap.size) (i : Nat) : ((w.alloc (.cells #[v0] t)).setCell ⟨b, 0, none⟩ v).frozen? ⟨b, i, none⟩ = false := by
  subst hb
  rw [World.frozen?_setCell, World.frozen?_alloc_new]
end

/-- The law's cells, laid. -/
def ordW (w : World) (bar : Int) : World :=
  (((((((w.alloc (.cells #[.float .f64 0] 35)).setCell ⟨w.heap.size, 0, none⟩ (.float .f64 (fl bar))).alloc (.cells #[.slice none 0 0] 28)).alloc (.cells #[.int .i64 0] 3)).setCell ⟨w.heap.size + 1 + 1, 0, none⟩ (.int .i64 0)).alloc (.cells #[.bool false] 4)).setCell ⟨w.heap.size + 1 + 1 + 1, 0, none⟩ (.bool false))
def ordF (s : Nat) (k : Nat) : Prop := k = s ∨ k = s + 1 + 1 ∨ k = s + 1 + 1 + 1 ∨ k = s + 1 ∨ (Value.slice none 0 0).ownBlock = some k
theorem ord_start (w : World) (base : Nat) (bar : Int) (hb : base ≤ w.heap.size) :
    EO base w.heap.size (w.heap.size + 1 + 1) (w.heap.size + 1 + 1 + 1) (w.heap.size + 1) bar ⟨0, []⟩ (ordF w.heap.size) (ordW w bar) ∧ Chg (fun _ => False) w (ordW w bar) := by
  unfold ordW
  have c1 := new_cell (w := w) (v0 := .float .f64 0) (v := .float .f64 (fl bar)) (t := 35) rfl
  have k1 := new_chg (w := w) (v0 := .float .f64 0) (v := .float .f64 (fl bar)) (t := 35) rfl
  have s1 := new_size (w := w) (b := w.heap.size) (v0 := .float .f64 0) (v := .float .f64 (fl bar)) (t := 35)
  generalize (w.alloc (.cells #[.float .f64 0] 35)).setCell ⟨w.heap.size, 0, none⟩ (.float .f64 (fl bar)) = W1 at c1 k1 s1 ⊢
  have c2 : (W1.alloc (.cells #[.slice none 0 0] 28)).cell? ⟨w.heap.size + 1, 0, none⟩ = some (.slice none 0 0) := by rw [← s1, World.cell?_alloc_new]; rfl
  have f2 : (W1.alloc (.cells #[.slice none 0 0] 28)).frozen? ⟨w.heap.size + 1, 0, none⟩ = false := by rw [← s1, World.frozen?_alloc_new]
  have k2 : Chg (fun _ => False) W1 (W1.alloc (.cells #[.slice none 0 0] 28)) := Chg.alloc _ _ _
  have s2 : (W1.alloc (.cells #[.slice none 0 0] 28)).heap.size = w.heap.size + 1 + 1 := by simp [s1]
  generalize W1.alloc (.cells #[.slice none 0 0] 28) = W2 at c2 f2 k2 s2 ⊢
  have c3 := new_cell (w := W2) (v0 := .int .i64 0) (v := .int .i64 0) (t := 3) (b := w.heap.size + 1 + 1) s2.symm
  have f3 := new_soft (w := W2) (v0 := .int .i64 0) (v := .int .i64 0) (t := 3) (b := w.heap.size + 1 + 1) s2.symm 0
  have k3 := new_chg (w := W2) (v0 := .int .i64 0) (v := .int .i64 0) (t := 3) (b := w.heap.size + 1 + 1) s2.symm
  have s3 := new_size (w := W2) (v0 := .int .i64 0) (v := .int .i64 0) (t := 3) (b := w.heap.size + 1 + 1)
  rw [s2] at s3
  generalize (W2.alloc (.cells #[.int .i64 0] 3)).setCell ⟨w.heap.size + 1 + 1, 0, none⟩ (.int .i64 0) = W3 at c3 f3 k3 s3 ⊢
  have c4 := new_cell (w := W3) (v0 := .bool false) (v := .bool false) (t := 4) (b := w.heap.size + 1 + 1 + 1) s3.symm
  have k4 := new_chg (w := W3) (v0 := .bool false) (v := .bool false) (t := 4) (b := w.heap.size + 1 + 1 + 1) s3.symm
  have s4 := new_size (w := W3) (v0 := .bool false) (v := .bool false) (t := 4) (b := w.heap.size + 1 + 1 + 1)
  rw [s3] at s4
  generalize (W3.alloc (.cells #[.bool false] 4)).setCell ⟨w.heap.size + 1 + 1 + 1, 0, none⟩ (.bool false) = W4 at c4 k4 s4 ⊢
  have k24 : Chg (fun _ => False) W2 W4 := k3.trans k4 (fun _ _ h => h)
  have k14 : Chg (fun _ => False) W1 W4 := k2.trans k24 (fun _ _ h => h)
  refine ⟨⟨.slice none 0 0, fun k => Iff.rfl, ?_, ?_, c4, ?_, World.ownsRow_nil _ _ _ _, ?_, ?_, fun k e => (by cases e), by omega⟩, k1.trans k14 (fun _ _ h => h)⟩
  · exact (k14.cell (p := ⟨w.heap.size, 0, none⟩) (by show w.heap.size < _; omega) id).trans c1
  · exact (k4.cell (p := ⟨w.heap.size + 1 + 1, 0, none⟩) (by show w.heap.size + 1 + 1 < _; omega) id).trans c3
  · exact (k24.cell (p := ⟨w.heap.size + 1, 0, none⟩) (by show w.heap.size + 1 < _; omega) id).trans c2
  · exact (k4.frozen (p := ⟨w.heap.size + 1 + 1, 0, none⟩) (by show w.heap.size + 1 + 1 < _; omega) id).trans f3
  · exact (k24.frozen (p := ⟨w.heap.size + 1, 0, none⟩) (by show w.heap.size + 1 < _; omega) id).trans f2

/-- The k-th item of the log. -/
def lj (tr : List Vis) (k : Nat) : Nat := (tr.getD k ⟨0, 0, false⟩).j
theorem lj_row (tr : List Vis) (k : Nat) (hk : k < tr.length) : (logOf tr)[k]? = some (.int .i32 (lj tr k : Int)) := by
  unfold logOf lj
  rw [List.getElem?_map, List.getElem?_eq_getElem hk, List.getD_eq_getElem?_getD, List.getElem?_eq_getElem hk]
  rfl
/-- Seen among the first k of the log. -/
def seenB (tr : List Vis) (k j : Nat) : Bool := decide (0 < fstN (tr.take k) j)
theorem seenB_zero (tr : List Vis) (j : Nat) : seenB tr 0 j = false := by
  unfold seenB
  rw [List.take_zero]
  exact decide_eq_false (by show ¬ 0 < 0; omega)
section
variable {len : Nat} {vals : Nat → Int} {key bar : Int} {tr : List Vis}
theorem lj_step (g : Good len vals (fun _ => 0) tr) {k : Nat} (hk : k < tr.length) : Step len vals (fun _ => 0) (tr.take k) (tr.getD k ⟨0, 0, false⟩) := by
  have e : tr = tr.take k ++ tr[k] :: tr.drop (k + 1) := by rw [← List.drop_eq_getElem_cons hk, List.take_append_drop]
  have := g (tr.take k) tr[k] (tr.drop (k + 1)) e
  rw [List.getD_eq_getElem?_getD, List.getElem?_eq_getElem hk]
  exact this
theorem lj_first (g : Good len vals (fun _ => 0) tr) {k : Nat} (hk : k < tr.length) : (tr.getD k ⟨0, 0, false⟩).again = false := by
  cases h : (tr.getD k ⟨0, 0, false⟩).again with
  | false => rfl
  | true => have := ((lj_step g hk).again h).2.2.2; omega
theorem lj_lt (g : Good len vals (fun _ => 0) tr) {k : Nat} (hk : k < tr.length) : lj tr k < len := (lj_step g hk).lt
theorem lj_new (g : Good len vals (fun _ => 0) tr) {k : Nat} (hk : k < tr.length) : seenB tr k (lj tr k) = false := by
  unfold seenB
  have := ((lj_step g hk).first (lj_first g hk)).1
  exact decide_eq_false (by show ¬ 0 < fstN (tr.take k) (tr.getD k ⟨0, 0, false⟩).j; omega)
theorem lj_next (g : Good len vals (fun _ => 0) tr) {k : Nat} (hk : k < tr.length) (j : Nat) : seenB tr (k + 1) j = if j = lj tr k then true else seenB tr k j := by
  unfold seenB
  have e : tr.take (k + 1) = tr.take k ++ [tr.getD k ⟨0, 0, false⟩] := by
    rw [List.getD_eq_getElem?_getD, List.getElem?_eq_getElem hk, List.take_succ_eq_append_getElem hk]
    rfl
  rw [e, fstN_snoc]
  unfold fstB
  rw [lj_first g hk]
  by_cases h : j = lj tr k
  · rw [if_pos h, if_pos (by simp; exact h.symm)]
    exact decide_eq_true (by omega)
  · rw [if_neg h, if_neg (by simp; exact fun h' => h h'.symm), Nat.add_zero]
theorem lj_in (g : Good len vals (fun _ => 0) tr) (hf : ∀ j : Nat, fstN tr j = if key < j ∧ j < len ∧ vals j < bar then 1 else 0) {k : Nat} (hk : k < tr.length) : key < lj tr k ∧ vals (lj tr k) < bar := by
  have h1 : 0 < fstN tr (lj tr k) := by
    unfold fstN
    refine List.countP_pos_iff.2 ⟨tr.getD k ⟨0, 0, false⟩, ?_, ?_⟩
    · rw [List.getD_eq_getElem?_getD, List.getElem?_eq_getElem hk]
      exact List.getElem_mem hk
    · unfold fstB
      rw [lj_first g hk]
      simp [lj]
  rw [hf] at h1
  by_cases h : key < (lj tr k : Int) ∧ lj tr k < len ∧ vals (lj tr k) < bar
  · exact ⟨h.1, h.2.2⟩
  · rw [if_neg h] at h1; omega
theorem lj_le (g : Good len vals (fun _ => 0) tr) {k : Nat} (hk : k + 1 < tr.length) : vals (lj tr k) ≤ vals (lj tr (k + 1)) := by
  have h1 := lj_step g hk
  have h2 := lj_step g (show k < tr.length by omega)
  have v1 := (h1.first (lj_first g hk)).2
  have v2 := (h2.first (lj_first g (by omega))).2
  have hm : tr.getD k ⟨0, 0, false⟩ ∈ tr.take (k + 1) := by
    rw [List.getD_eq_getElem?_getD, List.getElem?_eq_getElem (by omega), List.take_succ_eq_append_getElem (by omega)]
    exact List.mem_append.2 (.inr (List.mem_singleton.2 rfl))
  have := h1.le _ hm
  rw [v1, v2] at this
  exact this
theorem cnt_next (hf : ∀ j : Nat, fstN tr j = if key < j ∧ j < len ∧ vals j < bar then 1 else 0) {j : Nat} (hj : j < len) : cntF tr (j + 1) = if key < j ∧ vals j < bar then cntF tr j + 1 else cntF tr j := by
  rw [cntF_succ, hf]
  by_cases h : key < (j : Int) ∧ vals j < bar
  · rw [if_pos ⟨h.1, hj, h.2⟩, if_pos h]
  · rw [if_neg (fun e => h ⟨e.1, e.2.2⟩), if_neg h]; rfl
theorem cnt_all (g : Good len vals (fun _ => 0) tr) : cntF tr len = tr.length ∧ firsts tr = tr.length ∧ tr.length ≤ len := by
  obtain ⟨_, h2, h3⟩ := g.firsts0
  exact ⟨by rw [← cntF_all tr len g.lt]; exact h2.symm, h2.symm, h3⟩
end
end Go.Proofs.Ybulkbuhe
