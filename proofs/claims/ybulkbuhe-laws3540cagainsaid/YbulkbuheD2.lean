/-
  The client of LawS3540COrder.
-/
import Derived.Test.YbulkbuheD1
namespace Go.Proofs.Ybulkbuhe
open Go.RowKit Fl

theorem Good.front {len : Nat} {vals ext : Nat → Int} {l : List Vis} {x : Vis} (g : Good len vals ext (l ++ [x])) : Good len vals ext l := fun pre y post e => g pre y (post ++ [x]) (by rw [e]; simp)
theorem Good.fst1 {len : Nat} {vals ext : Nat → Int} : ∀ (n : Nat) (l : List Vis), l.length = n → Good len vals ext l → ∀ j, fstN l j ≤ 1 := by
  intro n
  induction n with
  | zero => intro l hl _ j; rw [List.length_eq_zero_iff.1 hl]; exact Nat.zero_le _
  | succ n ih =>
    intro l hl g j
    rcases List.eq_nil_or_concat l with e | ⟨l', x, e⟩
    · subst e; cases hl
    · rw [List.concat_eq_append] at e
      subst e
      have h1 := ih l' (by simpa using hl) g.front j
      rw [fstN_snoc]
      by_cases e2 : fstB j x = true
      · have e3 : x.again = false ∧ x.j = j := by unfold fstB at e2; simpa using e2
        have := (g.last.first e3.1).1
        rw [e3.2] at this
        rw [if_pos e2]; omega
      · rw [if_neg e2]; exact h1
/-- Where nothing is raised every visit is a first one. -/
theorem Good.firsts0 {len : Nat} {vals : Nat → Int} {l : List Vis} (g : Good len vals (fun _ => 0) l) : (∀ x ∈ l, x.again = false) ∧ l.length = firsts l ∧ l.length ≤ len := by
  have ha : ∀ x ∈ l, x.again = false := fun x hx => by
    obtain ⟨pre, post, e⟩ := List.append_of_mem hx
    cases h : x.again with
    | false => rfl
    | true => have := ((g pre x post e).again h).2.2.2; omega
  have hf : firsts l = l.length := by
    unfold firsts
    rw [List.countP_eq_length]
    intro x hx
    simp [ha x hx]
  refine ⟨ha, hf.symm, ?_⟩
  rw [← hf, cntF_all l len g.lt]
  exact cntF_le l (Good.fst1 _ l rfl g) len

/-- The cells of the law: the bar bb, the count nk, the flag bd, the log lb. -/
structure Cells (bb nk bd lb : Nat) : Prop where
  h1 : bb ≠ nk
  h2 : bb ≠ bd
  h3 : bb ≠ lb
  h4 : nk ≠ bd
  h5 : nk ≠ lb
  h6 : bd ≠ lb
structure EOs (base bb nk bd lb : Nat) (bar : Int) (g : Gh) (F : Nat → Prop) (w : World) (v : Value) : Prop where
  foot : ∀ k, F k ↔ k = bb ∨ k = nk ∨ k = bd ∨ k = lb ∨ v.ownBlock = some k
  cb : w.cell? ⟨bb, 0, none⟩ = some (.float .f64 (fl bar))
  cn : w.cell? ⟨nk, 0, none⟩ = some (.int .i64 g.bounds)
  cd : w.cell? ⟨bd, 0, none⟩ = some (.bool false)
  cl : w.cell? ⟨lb, 0, none⟩ = some v
  row : w.ownsRow base 21 1 v g.tr.length (logOf g.tr)
  fn : w.frozen? ⟨nk, 0, none⟩ = false
  fl : w.frozen? ⟨lb, 0, none⟩ = false
  sep : ∀ k, v.ownBlock = some k → k ≠ bb ∧ k ≠ nk ∧ k ≠ bd ∧ k ≠ lb
  low : base ≤ w.heap.size
def EO (base bb nk bd lb : Nat) (bar : Int) (g : Gh) (F : Nat → Prop) (w : World) : Prop := ∃ v, EOs base bb nk bd lb bar g F w v

section
variable {base bb nk bd lb : Nat} {bar : Int} {g : Gh} {F : Nat → Prop} {w : World} {v : Value}
theorem EOs.chg {S : Nat → Prop} {w' : World} (e : EOs base bb nk bd lb bar g F w v) (hc : Chg S w w') (hS : ∀ k, S k → ¬ F k) : EOs base bb nk bd lb bar g F w' v := by
  have n1 : ¬ S bb := fun h => hS _ h ((e.foot _).2 (.inl rfl))
  have n2 : ¬ S nk := fun h => hS _ h ((e.foot _).2 (.inr (.inl rfl)))
  have n3 : ¬ S bd := fun h => hS _ h ((e.foot _).2 (.inr (.inr (.inl rfl))))
  have n4 : ¬ S lb := fun h => hS _ h ((e.foot _).2 (.inr (.inr (.inr (.inl rfl)))))
  have l2 := World.block_lt_of_cell? w _ e.cn
  have l4 := World.block_lt_of_cell? w _ e.cl
  exact ⟨e.foot, (hc.cell (World.block_lt_of_cell? w _ e.cb) n1).trans e.cb, (hc.cell l2 n2).trans e.cn, (hc.cell (World.block_lt_of_cell? w _ e.cd) n3).trans e.cd, (hc.cell l4 n4).trans e.cl,
    hc.row e.row (fun k h1 h2 => hS k h2 ((e.foot k).2 (.inr (.inr (.inr (.inr h1)))))), (hc.frozen (p := ⟨nk, 0, none⟩) l2 n2).trans e.fn, (hc.frozen (p := ⟨lb, 0, none⟩) l4 n4).trans e.fl, e.sep, Nat.le_trans e.low hc.size⟩
theorem EOs.lt (e : EOs base bb nk bd lb bar g F w v) (k : Nat) (h : F k) : k < w.heap.size := by
  rcases (e.foot k).1 h with rfl | rfl | rfl | rfl | h
  · exact World.block_lt_of_cell? w _ e.cb
  · exact World.block_lt_of_cell? w _ e.cn
  · exact World.block_lt_of_cell? w _ e.cd
  · exact World.block_lt_of_cell? w _ e.cl
  · exact (e.row.lt k h).2
end

theorem EOs.bound {base bb nk bd lb : Nat} {bar : Int} {b : Nat} {tr : List Vis} {F : Nat → Prop} {w : World} {v : Value} (cs : Cells bb nk bd lb) (e : EOs base bb nk bd lb bar ⟨b, tr⟩ F w v) :
    EOs base bb nk bd lb bar ⟨b + 1, tr⟩ F (w.setCell ⟨nk, 0, none⟩ (.int .i64 ((b + 1 : Nat) : Int))) v := by
  have hc : Chg (fun k => k = nk) w (w.setCell ⟨nk, 0, none⟩ (.int .i64 ((b + 1 : Nat) : Int))) := Chg.setCell w _ _ rfl
  exact ⟨e.foot, (hc.cell (World.block_lt_of_cell? w _ e.cb) cs.h1).trans e.cb, World.cell?_setCell_same _ _ _ e.cn, (hc.cell (World.block_lt_of_cell? w _ e.cd) (fun h => cs.h4 h.symm)).trans e.cd, (hc.cell (World.block_lt_of_cell? w _ e.cl) (fun h => cs.h5 h.symm)).trans e.cl,
    hc.row e.row (fun k h1 => (e.sep k h1).2.1), by rw [World.frozen?_setCell]; exact e.fn, by rw [World.frozen?_setCell]; exact e.fl, e.sep, Nat.le_trans e.low hc.size⟩
theorem EOs.visit {base bb nk bd lb : Nat} {bar : Int} {b : Nat} {tr : List Vis} {F : Nat → Prop} {w : World} {v : Value} (cs : Cells bb nk bd lb) (e : EOs base bb nk bd lb bar ⟨b, tr⟩ F w v) {x : Vis} {g cap : Nat} {w1 : World}
    (hown : w1.ownsRow base 21 1 (.slice (some ⟨g, 0, none⟩) (tr.length + 1) cap) (tr.length + 1) (logOf tr ++ [.int .i32 (x.j : Int)])) (hc : Chg (fun k => v.ownBlock = some k) w w1) (hg : v.ownBlock = some g ∨ w.heap.size ≤ g) :
    ∃ F', EO base bb nk bd lb bar ⟨b, tr ++ [x]⟩ F' (w1.setCell ⟨lb, 0, none⟩ (.slice (some ⟨g, 0, none⟩) (tr.length + 1) cap)) ∧ Chg F w (w1.setCell ⟨lb, 0, none⟩ (.slice (some ⟨g, 0, none⟩) (tr.length + 1) cap)) ∧ ∀ k, F' k → F k ∨ w.heap.size ≤ k := by
  have l1 := World.block_lt_of_cell? w _ e.cb
  have l2 := World.block_lt_of_cell? w _ e.cn
  have l3 := World.block_lt_of_cell? w _ e.cd
  have l4 := World.block_lt_of_cell? w _ e.cl
  have m1 : bb < w.heap.size := l1
  have m2 : nk < w.heap.size := l2
  have m3 : bd < w.heap.size := l3
  have m4 : lb < w.heap.size := l4
  have k2 : Chg (fun k => k = lb) w1 (w1.setCell ⟨lb, 0, none⟩ (.slice (some ⟨g, 0, none⟩) (tr.length + 1) cap)) := Chg.setCell w1 _ _ rfl
  have n1 : v.ownBlock ≠ some bb := fun h => (e.sep _ h).1 rfl
  have n2 : v.ownBlock ≠ some nk := fun h => (e.sep _ h).2.1 rfl
  have n3 : v.ownBlock ≠ some bd := fun h => (e.sep _ h).2.2.1 rfl
  have n4 : v.ownBlock ≠ some lb := fun h => (e.sep _ h).2.2.2 rfl
  have gs : g ≠ bb ∧ g ≠ nk ∧ g ≠ bd ∧ g ≠ lb := by
    rcases hg with h | h
    · exact e.sep g h
    · exact ⟨by omega, by omega, by omega, by omega⟩
  refine ⟨fun k => k = bb ∨ k = nk ∨ k = bd ∨ k = lb ∨ k = g, ⟨.slice (some ⟨g, 0, none⟩) (tr.length + 1) cap, ?_⟩, ?_, ?_⟩
  · refine ⟨fun k => ?_, ?_, ?_, ?_, ?_, ?_, ?_, ?_, fun k h => ?_, ?_⟩
    · constructor
      · rintro (h | h | h | h | h)
        · exact .inl h
        · exact .inr (.inl h)
        · exact .inr (.inr (.inl h))
        · exact .inr (.inr (.inr (.inl h)))
        · exact .inr (.inr (.inr (.inr (by rw [h]; rfl))))
      · rintro (h | h | h | h | h)
        · exact .inl h
        · exact .inr (.inl h)
        · exact .inr (.inr (.inl h))
        · exact .inr (.inr (.inr (.inl h)))
        · exact .inr (.inr (.inr (.inr (Option.some.inj h).symm)))
    · exact (k2.cell (p := ⟨bb, 0, none⟩) (Nat.lt_of_lt_of_le m1 hc.size) cs.h3).trans ((hc.cell (p := ⟨bb, 0, none⟩) m1 n1).trans e.cb)
    · exact (k2.cell (p := ⟨nk, 0, none⟩) (Nat.lt_of_lt_of_le m2 hc.size) cs.h5).trans ((hc.cell (p := ⟨nk, 0, none⟩) m2 n2).trans e.cn)
    · exact (k2.cell (p := ⟨bd, 0, none⟩) (Nat.lt_of_lt_of_le m3 hc.size) cs.h6).trans ((hc.cell (p := ⟨bd, 0, none⟩) m3 n3).trans e.cd)
    · exact World.cell?_setCell_same _ _ _ ((hc.cell (p := ⟨lb, 0, none⟩) m4 n4).trans e.cl)
    · have hl : (tr ++ [x]).length = tr.length + 1 := by simp
      have hr : logOf (tr ++ [x]) = logOf tr ++ [.int .i32 (x.j : Int)] := by unfold logOf; simp
      show World.ownsRow _ base 21 1 _ (tr ++ [x]).length (logOf (tr ++ [x]))
      rw [hl, hr]
      exact k2.row hown (fun k h => by cases h; exact gs.2.2.2)
    · rw [World.frozen?_setCell]; exact (hc.frozen (p := ⟨nk, 0, none⟩) m2 n2).trans e.fn
    · rw [World.frozen?_setCell]; exact (hc.frozen (p := ⟨lb, 0, none⟩) m4 n4).trans e.fl
    · cases h; exact gs
    · exact Nat.le_trans e.low (Nat.le_trans hc.size k2.size)
  · exact (hc.mono (fun k _ h => (e.foot k).2 (.inr (.inr (.inr (.inr h)))))).trans k2 (fun k _ h => (e.foot k).2 (.inr (.inr (.inr (.inl h)))))
  · rintro k (h | h | h | h | h)
    · exact .inl ((e.foot k).2 (.inl h))
    · exact .inl ((e.foot k).2 (.inr (.inl h)))
    · exact .inl ((e.foot k).2 (.inr (.inr (.inl h))))
    · exact .inl ((e.foot k).2 (.inr (.inr (.inr (.inl h)))))
    · rcases hg with h2 | h2
      · exact .inl ((e.foot k).2 (.inr (.inr (.inr (.inr (by rw [h]; exact h2))))))
      · exact .inr (by omega)

def orderClient (base bb nk bd lb : Nat) (cs : Cells bb nk bd lb) (bar : Int) (hbar : Small bar) (len : Nat) (hlen : len ≤ 1024) (vals : Nat → Int) : Client base where
  fv := 7
  fb := 8
  fn := 9
  fs := 10
  cb := #[.pointer (some ⟨bb, 0, none⟩)]
  cn := #[.pointer (some ⟨nk, 0, none⟩)]
  cs := #[.pointer (some ⟨bd, 0, none⟩), .pointer (some ⟨lb, 0, none⟩)]
  bar := bar
  ext := fun _ => 0
  good := Good len vals (fun _ => 0)
  E := EO base bb nk bd lb bar
  small := hbar
  entv := ent7
  entb := ent8
  entn := ent9
  ents := ent10
  lt := fun _ _ _ k ⟨_, e⟩ h => e.lt k h
  keep := fun _ _ _ _ _ ⟨v, e⟩ hc hS => ⟨v, e.chg hc (fun k h => (hS k h).2)⟩
  value := value7
  barred := fun _ _ w ⟨_, e⟩ => bar8 w bb _ e.cb
  bound := fun b tr F w j x ⟨v, e⟩ _ hb => (bound9 w nk b j (fl x) e.cn e.fn hb).mono fun e' w' h => by
    obtain ⟨h1, h2⟩ := h
    subst h2
    exact ⟨h1, F, ⟨v, EOs.bound cs e⟩, (Chg.setCell (S := F) w ⟨nk, 0, none⟩ _ ((e.foot nk).2 (.inr (.inl rfl)))), fun k h => .inl h⟩
  visit := fun b tr F w x ⟨v, e⟩ hg => by
    obtain ⟨ha, _, hl⟩ := hg.firsts0
    have hx : x.again = false := ha x (by simp)
    have hl2 : tr.length + 1 ≤ len := by simpa using hl
    have h0 : ¬ (x.again = false ∧ (0 : Int) < 0) := fun h => by omega
    rw [if_neg h0, decide_eq_false h0, hx]
    refine (visit10 w base bd lb v tr x.j (fl x.v) e.cl e.row e.fl (fun h => (e.sep _ h).2.2.2 rfl) (by omega) e.low).mono ?_
    rintro e' w' ⟨rfl, g, cap, w1, hown, hc, hgg, rfl⟩
    exact ⟨⟨0, rfl, fun h => absurd h.2 (by omega)⟩, EOs.visit cs e hown hc hgg⟩
end Go.Proofs.Ybulkbuhe
