/-
  The queue in plain words: a binary heap; its row in memory.
-/
import Derived.Test.YbulkbuheA6
namespace Go.Proofs.Ybulkbuhe
open Go.RowKit Fl

/-- An entry that is still to be read. -/
structure Un where
  v : Int
  n : Nat
  i : Nat
  again : Bool
deriving DecidableEq

def u0 : Un := ⟨0, 0, 0, false⟩
/-- The queue's entry j. -/
def qa (q : List Un) (j : Nat) : Un := q.getD j u0
theorem qa_set (q : List Un) (i : Nat) (e : Un) (j : Nat) (hi : i < q.length) : qa (q.set i e) j = if j = i then e else qa q j := by
  unfold qa
  simp only [List.getD_eq_getElem?_getD, List.getElem?_set]
  by_cases h : i = j
  · subst h; simp [hi]
  · rw [if_neg h, if_neg (fun e => h e.symm)]
theorem qa_mem (q : List Un) (j : Nat) (hj : j < q.length) : qa q j ∈ q := by
  unfold qa
  rw [List.getD_eq_getElem?_getD, List.getElem?_eq_getElem hj]
  exact List.getElem_mem hj
theorem qa_get (q : List Un) (j : Nat) (hj : j < q.length) : qa q j = q[j] := by
  unfold qa
  rw [List.getD_eq_getElem?_getD, List.getElem?_eq_getElem hj]; rfl

def Heap (q : List Un) : Prop := ∀ j, 0 < j → j < q.length → (qa q ((j - 1) / 2)).v ≤ (qa q j).v
theorem Heap.least {q : List Un} (h : Heap q) : ∀ k j, j ≤ k → j < q.length → (qa q 0).v ≤ (qa q j).v := by
  intro k
  induction k with
  | zero => intro j hj _; rw [show j = 0 by omega]; exact Int.le_refl _
  | succ k ih =>
    intro j hj hl
    by_cases h0 : j = 0
    · subst h0; exact Int.le_refl _
    · exact Int.le_trans (ih ((j - 1) / 2) (by omega) (by omega)) (h j (by omega) hl)
theorem Heap.top {q : List Un} (h : Heap q) : ∀ u ∈ q, (qa q 0).v ≤ u.v := by
  intro u hu
  obtain ⟨j, hj, rfl⟩ := List.getElem_of_mem hu
  rw [← qa_get q j hj]
  exact h.least j j (Nat.le_refl _) hj

theorem swap_perm (q : List Un) (i j : Nat) (hi : i < q.length) (hj : j < q.length) (hij : i ≠ j) : List.Perm ((q.set i (qa q j)).set j (qa q i)) q := by
  rw [List.perm_iff_count]
  intro a
  have hj' : j < (q.set i (qa q j)).length := by simpa using hj
  rw [List.count_set hj', List.count_set hi]
  have e : (q.set i (qa q j))[j] = q[j] := by rw [List.getElem_set_ne (h := hij)]
  rw [e, qa_get q i hi, qa_get q j hj]
  have c1 : q[i] ∈ q := List.getElem_mem hi
  by_cases h1 : q[i] = a <;> by_cases h2 : q[j] = a
  · have := List.count_pos_iff.2 c1
    rw [h1] at this
    simp [h1, h2]; omega
  · have := List.count_pos_iff.2 c1
    rw [h1] at this
    simp [h1, h2]; omega
  · simp [h1, h2]
  · simp [h1, h2]

/-- The entry e goes up; it stands at i. -/
structure Up (q1 q : List Un) (i : Nat) (e : Un) : Prop where
  lt : i < q.length
  perm : List.Perm (q.set i e) q1
  rest : ∀ j, 0 < j → j < q.length → j ≠ i → (qa (q.set i e) ((j - 1) / 2)).v ≤ (qa (q.set i e) j).v
  over : ∀ j, 0 < j → j < q.length → (j - 1) / 2 = i → 0 < i → (qa (q.set i e) ((i - 1) / 2)).v ≤ (qa (q.set i e) j).v

theorem qa_append (q : List Un) (e : Un) (j : Nat) (hj : j < q.length) : qa (q ++ [e]) j = qa q j := by
  unfold qa
  simp only [List.getD_eq_getElem?_getD, List.getElem?_append_left hj]
theorem set_last (q : List Un) (e : Un) : (q ++ [e]).set q.length e = q ++ [e] := by
  apply List.ext_getElem?
  intro j
  rw [List.getElem?_set]
  by_cases h : q.length = j
  · subst h; simp
  · rw [if_neg h]
theorem Up.start (q : List Un) (e : Un) (h : Heap q) : Up (q ++ [e]) (q ++ [e]) q.length e := by
  refine ⟨by simp, by rw [set_last], fun j h0 hl hn => ?_, fun j h0 hl hp _ => ?_⟩
  · rw [set_last]
    have hj : j < q.length := by simp at hl; omega
    rw [qa_append q e j hj, qa_append q e _ (by omega)]
    exact h j h0 hj
  · simp at hl; omega
theorem Up.step {q1 q : List Un} {i : Nat} {e : Un} (h : Up q1 q i e) (h0 : 0 < i) (hc : e.v < (qa q ((i - 1) / 2)).v) : Up q1 (q.set i (qa q ((i - 1) / 2))) ((i - 1) / 2) e := by
  have hlt := h.lt
  have hu : (i - 1) / 2 < i := by omega
  have hul : (i - 1) / 2 < q.length := by omega
  have hul' : (i - 1) / 2 < (q.set i (qa q ((i - 1) / 2))).length := by simpa using hul
  have key : ∀ j, qa ((q.set i (qa q ((i - 1) / 2))).set ((i - 1) / 2) e) j = if j = (i - 1) / 2 then e else if j = i then qa q ((i - 1) / 2) else qa q j := fun j => by
    rw [qa_set _ _ _ _ hul', qa_set _ _ _ _ hlt]
  have old : ∀ j, qa (q.set i e) j = if j = i then e else qa q j := fun j => qa_set _ _ _ _ hlt
  refine ⟨hul', ?_, fun j j0 jl jn => ?_, fun j j0 jl jp h1 => ?_⟩
  · have hs := swap_perm (q.set i e) i ((i - 1) / 2) (by simpa using hlt) (by simpa using hul) (by omega)
    rw [old, old, if_neg (by omega), if_pos rfl, List.set_set] at hs
    exact hs.trans h.perm
  · simp only [List.length_set] at jl
    rw [key, key, if_neg jn]
    by_cases hj : j = i
    · subst hj; rw [if_pos rfl, if_pos rfl]; omega
    · rw [if_neg hj]
      have hr := h.rest j j0 jl hj
      rw [old, old, if_neg hj] at hr
      by_cases hp : (j - 1) / 2 = (i - 1) / 2
      · rw [if_pos hp]; rw [if_neg (by omega), hp] at hr; omega
      · rw [if_neg hp]
        by_cases hpi : (j - 1) / 2 = i
        · rw [if_pos hpi]
          have ho := h.over j j0 jl hpi h0
          rw [old, old, if_neg hj, if_neg (by omega)] at ho
          exact ho
        · rw [if_neg hpi]; rw [if_neg hpi] at hr; exact hr
  · simp only [List.length_set] at jl
    rw [key, key, if_neg (by omega), if_neg (by omega), if_neg (by omega)]
    have hr := h.rest ((i - 1) / 2) h1 hul (by omega)
    rw [old, old, if_neg (by omega), if_neg (by omega)] at hr
    by_cases hj : j = i
    · rw [if_pos hj]; exact hr
    · rw [if_neg hj]
      have hr2 := h.rest j j0 jl hj
      rw [old, old, if_neg hj, if_neg (by omega), jp] at hr2
      omega
theorem Up.done {q1 q : List Un} {i : Nat} {e : Un} (h : Up q1 q i e) (hc : i = 0 ∨ (qa q ((i - 1) / 2)).v ≤ e.v) : Heap (q.set i e) := by
  have hlt := h.lt
  intro j j0 jl
  simp only [List.length_set] at jl
  by_cases hj : j = i
  · rcases hc with h0 | hc
    · omega
    · rw [qa_set _ _ _ _ hlt, qa_set _ _ _ _ hlt, if_pos hj, if_neg (by omega), hj]; exact hc
  · exact h.rest j j0 jl hj

/-- The entry e goes down; it stands at i. -/
structure Dn (q1 q : List Un) (i : Nat) (e : Un) : Prop where
  lt : i < q.length
  perm : List.Perm (q.set i e) q1
  rest : ∀ j, 0 < j → j < q.length → (j - 1) / 2 ≠ i → (qa (q.set i e) ((j - 1) / 2)).v ≤ (qa (q.set i e) j).v
  over : ∀ j, 0 < j → j < q.length → (j - 1) / 2 = i → 0 < i → (qa (q.set i e) ((i - 1) / 2)).v ≤ (qa (q.set i e) j).v

theorem Dn.start (q : List Un) (e : Un) (h : Heap q) (h0 : 0 < q.length) : Dn (q.set 0 e) q 0 e := by
  refine ⟨h0, List.Perm.refl _, fun j j0 jl jp => ?_, fun j _ _ _ h => absurd h (Nat.lt_irrefl _)⟩
  rw [qa_set _ _ _ _ h0, qa_set _ _ _ _ h0, if_neg (by omega), if_neg (by omega)]
  exact h j j0 jl
/-- b is the lesser child of i. -/
structure Kid (q : List Un) (i b : Nat) : Prop where
  lt : b < q.length
  pos : 0 < b
  par : (b - 1) / 2 = i
  le : ∀ j, 0 < j → j < q.length → (j - 1) / 2 = i → (qa q b).v ≤ (qa q j).v
theorem Dn.step {q1 q : List Un} {i b : Nat} {e : Un} (h : Dn q1 q i e) (k : Kid q i b) (hc : (qa q b).v < e.v) : Dn q1 (q.set i (qa q b)) b e := by
  have hlt := h.lt
  have hb := k.lt
  have hp := k.par
  have hpos := k.pos
  have hb' : b < (q.set i (qa q b)).length := by simpa using hb
  have key : ∀ j, qa ((q.set i (qa q b)).set b e) j = if j = b then e else if j = i then qa q b else qa q j := fun j => by
    rw [qa_set _ _ _ _ hb', qa_set _ _ _ _ hlt]
  have old : ∀ j, qa (q.set i e) j = if j = i then e else qa q j := fun j => qa_set _ _ _ _ hlt
  refine ⟨hb', ?_, fun j j0 jl jn => ?_, fun j j0 jl jp h1 => ?_⟩
  · have hs := swap_perm (q.set i e) i b (by simpa using hlt) (by simpa using hb) (by omega)
    rw [old, old, if_neg (by omega), if_pos rfl, List.set_set] at hs
    exact hs.trans h.perm
  · simp only [List.length_set] at jl
    rw [key, key, if_neg jn]
    by_cases hj : j = b
    · subst hj; rw [if_pos hp, if_pos rfl]; omega
    · rw [if_neg hj]
      by_cases hpi : (j - 1) / 2 = i
      · rw [if_pos hpi, if_neg (by omega)]
        exact k.le j j0 jl hpi
      · rw [if_neg hpi]
        have hr := h.rest j j0 jl hpi
        rw [old, old, if_neg hpi] at hr
        by_cases hji : j = i
        · rw [if_pos hji]
          have ho := h.over b hpos hb hp (by omega)
          rw [old, old, if_neg (by omega), if_neg (by omega)] at ho
          rw [hji]; exact ho
        · rw [if_neg hji]; rw [if_neg hji] at hr; exact hr
  · simp only [List.length_set] at jl
    rw [key, key, hp, if_neg (by omega), if_pos rfl, if_neg (by omega), if_neg (by omega)]
    have hr := h.rest j j0 jl (by omega)
    rw [old, old, if_neg (by omega), if_neg (by omega), jp] at hr
    exact hr
theorem Dn.done {q1 q : List Un} {i : Nat} {e : Un} (h : Dn q1 q i e) (hc : ∀ j, 0 < j → j < q.length → (j - 1) / 2 = i → e.v ≤ (qa q j).v) : Heap (q.set i e) := by
  have hlt := h.lt
  intro j j0 jl
  simp only [List.length_set] at jl
  by_cases hp : (j - 1) / 2 = i
  · rw [qa_set _ _ _ _ hlt, qa_set _ _ _ _ hlt, if_pos hp, if_neg (by omega)]; exact hc j j0 jl hp
  · exact h.rest j j0 jl hp

/-- Without its last entry a heap is a heap. -/
theorem Heap.take {q : List Un} (h : Heap q) (m : Nat) (hm : m ≤ q.length) : Heap (q.take m) := by
  intro j j0 jl
  have jm : j < m := by simp at jl; omega
  have e : ∀ x, x < m → qa (q.take m) x = qa q x := fun x hx => by
    unfold qa; simp only [List.getD_eq_getElem?_getD, List.getElem?_take, hx, if_true]
  rw [e _ (by omega), e _ jm]
  exact h j j0 (by omega)
/-- The first off, the last in its place: the same entries. -/
theorem take_perm (q : List Un) (m : Nat) (hm : q.length = m + 1) (h0 : 0 < m) : List.Perm (qa q 0 :: (q.take m).set 0 (qa q m)) q := by
  match q, hm with
  | x :: r, hm =>
    have hr : r.length = m := by simpa using hm
    have h1 : (x :: r).take m = x :: r.take (m - 1) := by
      obtain ⟨k, rfl⟩ : ∃ k, m = k + 1 := ⟨m - 1, by omega⟩
      rfl
    have h2 : qa (x :: r) m = qa r (m - 1) := by
      obtain ⟨k, rfl⟩ : ∃ k, m = k + 1 := ⟨m - 1, by omega⟩
      rfl
    rw [h1, List.set_cons_zero, h2, show qa (x :: r) 0 = x from rfl, qa_get r (m - 1) (by omega)]
    refine List.Perm.cons _ ?_
    have h3 : r = r.take (m - 1) ++ [r[m - 1]'(by omega)] := by
      have := List.take_append_drop (m - 1) r
      rw [List.drop_eq_getElem_cons (by omega), List.drop_eq_nil_of_le (by omega)] at this
      exact this.symm
    have h4 : List.Perm (r.take (m - 1) ++ [r[m - 1]'(by omega)]) (r[m - 1]'(by omega) :: r.take (m - 1)) := List.perm_append_singleton _ _
    exact ((List.Perm.of_eq h3).trans h4).symm

/-- The entry's four cells. -/
def uc (u : Un) : Nat → Value
  | 0 => .float .f64 (fl u.v)
  | 1 => .int .i32 u.n
  | 2 => .int .i32 u.i
  | _ => .bool u.again
def qrow (q : List Un) : List Value := (List.range (q.length * 4)).map fun k => uc (qa q (k / 4)) (k % 4)
theorem qrow_len (q : List Un) : (qrow q).length = q.length * 4 := by simp [qrow]
theorem qrow_at (q : List Un) (j o : Nat) (hj : j < q.length) (ho : o < 4) : (qrow q)[j * 4 + o]? = some (uc (qa q j) o) := by
  unfold qrow
  rw [List.getElem?_map, List.getElem?_range (by omega)]
  simp only [Option.map_some]
  rw [show (j * 4 + o) / 4 = j by omega, show (j * 4 + o) % 4 = o by omega]
theorem qrow_set (q : List Un) (j : Nat) (u : Un) (hj : j < q.length) : ((((qrow q).set (j * 4) (uc u 0)).set (j * 4 + 1) (uc u 1)).set (j * 4 + 2) (uc u 2)).set (j * 4 + 3) (uc u 3) = qrow (q.set j u) := by
  apply List.ext_getElem?
  intro k
  by_cases hk : k < q.length * 4
  · have hr : (qrow (q.set j u))[k]? = some (uc (qa (q.set j u) (k / 4)) (k % 4)) := by
      have := qrow_at (q.set j u) (k / 4) (k % 4) (by simp; omega) (by omega)
      rwa [show k / 4 * 4 + k % 4 = k by omega] at this
    have hl : (qrow q)[k]? = some (uc (qa q (k / 4)) (k % 4)) := by
      have := qrow_at q (k / 4) (k % 4) (by omega) (by omega)
      rwa [show k / 4 * 4 + k % 4 = k by omega] at this
    rw [hr, qa_set _ _ _ _ hj]
    simp only [List.getElem?_set, List.length_set, qrow_len]
    by_cases h4 : k / 4 = j
    · rw [if_pos h4]
      have : k % 4 = 0 ∨ k % 4 = 1 ∨ k % 4 = 2 ∨ k % 4 = 3 := by omega
      rcases this with h | h | h | h
      · rw [if_neg (by omega), if_neg (by omega), if_neg (by omega), if_pos (by omega), if_pos (by omega), h]
      · rw [if_neg (by omega), if_neg (by omega), if_pos (by omega), if_pos (by omega), h]
      · rw [if_neg (by omega), if_pos (by omega), if_pos (by omega), h]
      · rw [if_pos (by omega), if_pos (by omega), h]
    · rw [if_neg h4, if_neg (by omega), if_neg (by omega), if_neg (by omega), if_neg (by omega), hl]
  · rw [List.getElem?_eq_none (by simp [qrow_len]; omega), List.getElem?_eq_none (by simp [qrow_len]; omega)]
theorem qrow_append (q : List Un) (e : Un) : qrow q ++ [uc e 0, uc e 1, uc e 2, uc e 3] = qrow (q ++ [e]) := by
  unfold qrow
  rw [show (q ++ [e]).length * 4 = q.length * 4 + 4 by simp; omega, List.range_add, List.map_append, List.map_map]
  have h2 : qa (q ++ [e]) q.length = e := by unfold qa; simp [List.getD_eq_getElem?_getD]
  congr 1
  · apply List.map_congr_left
    intro k hk
    have := List.mem_range.1 hk
    rw [qa_append q e _ (by omega)]
  · have h4 : List.range 4 = [0, 1, 2, 3] := rfl
    rw [h4]
    simp only [List.map_cons, List.map_nil, Function.comp]
    rw [show (q.length * 4 + 0) / 4 = q.length by omega, show (q.length * 4 + 1) / 4 = q.length by omega, show (q.length * 4 + 2) / 4 = q.length by omega, show (q.length * 4 + 3) / 4 = q.length by omega,
      show (q.length * 4 + 0) % 4 = 0 by omega, show (q.length * 4 + 1) % 4 = 1 by omega, show (q.length * 4 + 2) % 4 = 2 by omega, show (q.length * 4 + 3) % 4 = 3 by omega, h2]

/-- The queue's row. -/
def QR (w : World) (base g cap : Nat) (q : List Un) : Prop := w.ownsRow base 71 4 (.slice (some ⟨g, 0, none⟩) q.length cap) q.length (qrow q)
section
variable {w : World} {base g cap : Nat} {q : List Un}
theorem QR.at (h : QR w base g cap q) {j o : Nat} (hj : j < q.length) (ho : o < 4) : w.cell? ⟨g, j * 4 + o, none⟩ = some (uc (qa q j) o) := by
  have h' : w.ownsRow base 71 4 (.slice (some ⟨g, 0, none⟩) q.length cap) q.length (qrow q) := h
  rw [h'.cellAt (j * 4 + o) (by omega), qrow_at q j o hj ho]
theorem QR.soft (h : QR w base g cap q) (i : Nat) : w.frozen? ⟨g, i, none⟩ = false := World.ownsRow.frozenAt (h : w.ownsRow base 71 4 (.slice (some ⟨g, 0, none⟩) q.length cap) q.length (qrow q)) i
theorem QR.lt (h : QR w base g cap q) : base ≤ g ∧ g < w.heap.size := World.ownsRow.lt (h : w.ownsRow base 71 4 (.slice (some ⟨g, 0, none⟩) q.length cap) q.length (qrow q)) g rfl
theorem QR.chg {S : Nat → Prop} {w' : World} (h : QR w base g cap q) (k : Chg S w w') (hn : ¬ S g) : QR w' base g cap q := k.row h (fun i e => by cases e; exact hn)
theorem QR.set (h : QR w base g cap q) (j : Nat) (u : Un) (hj : j < q.length) :
    QR ((((w.setCell ⟨g, j * 4, none⟩ (uc u 0)).setCell ⟨g, j * 4 + 1, none⟩ (uc u 1)).setCell ⟨g, j * 4 + 2, none⟩ (uc u 2)).setCell ⟨g, j * 4 + 3, none⟩ (uc u 3)) base g cap (q.set j u) := by
  have h' : w.ownsRow base 71 4 (.slice (some ⟨g, 0, none⟩) q.length cap) q.length (qrow q) := h
  have h4 := ((((h'.stored (j * 4) (uc u 0)).1.stored (j * 4 + 1) (uc u 1)).1.stored (j * 4 + 2) (uc u 2)).1.stored (j * 4 + 3) (uc u 3)).1
  rw [qrow_set q j u hj] at h4
  unfold QR
  rw [List.length_set]
  exact h4
theorem chg4 (w : World) (g a b c d : Nat) (x y z t : Value) : Chg (fun k => k = g) w ((((w.setCell ⟨g, a, none⟩ x).setCell ⟨g, b, none⟩ y).setCell ⟨g, c, none⟩ z).setCell ⟨g, d, none⟩ t) :=
  (((Chg.setCell (S := fun k => k = g) w ⟨g, a, none⟩ x rfl).trans (Chg.setCell (S := fun k => k = g) _ ⟨g, b, none⟩ y rfl) (fun _ _ h => h)).trans (Chg.setCell (S := fun k => k = g) _ ⟨g, c, none⟩ z rfl) (fun _ _ h => h)).trans (Chg.setCell (S := fun k => k = g) _ ⟨g, d, none⟩ t rfl) (fun _ _ h => h)
theorem QR.take (h : QR w base g cap q) (m : Nat) (hm : m ≤ q.length) : QR w base g cap (q.take m) := by
  have h' : w.ownsRow base 71 4 (.slice (some ⟨g, 0, none⟩) q.length cap) q.length (qrow q) := h
  have hl : (q.take m).length = m := by simp; omega
  unfold QR
  rw [hl]
  refine ⟨by rw [qrow_len, hl], ?_⟩
  rcases h'.2 with ⟨e, _⟩ | ⟨g', cap', cur, e, hb, hg, hc, hc2, hs, ht⟩
  · cases e
  · cases e
    refine .inr ⟨g, cap, cur, rfl, hb, hg, by omega, hc2, hs, ?_⟩
    have e1 : cur.toList.take (m * 4) = (qrow q).take (m * 4) := by rw [← ht, List.take_take, show min (m * 4) (q.length * 4) = m * 4 by omega]
    rw [e1]
    unfold qrow
    rw [← List.map_take, List.take_range, hl, show min (m * 4) (q.length * 4) = m * 4 by omega]
    apply List.map_congr_left
    intro k hk
    have := List.mem_range.1 hk
    have : qa (q.take m) (k / 4) = qa q (k / 4) := by unfold qa; simp only [List.getD_eq_getElem?_getD, List.getElem?_take, show k / 4 < m by omega, if_true]
    rw [this]
end
end Go.Proofs.Ybulkbuhe
