/-
  The client of LawS3540CAgain.
-/
import Derived.Test.YbulkbuheG3
namespace Go.Proofs.Ybulkbuhe
open Go.RowKit Fl

theorem Good.snd1 {len : Nat} {vals ext : Nat → Int} : ∀ (n : Nat) (l : List Vis), l.length = n → Good len vals ext l → ∀ j, sndN l j ≤ 1 := by
  intro n
  induction n with
  | zero => intro l hl _ j; rw [List.length_eq_zero_iff.1 hl]; exact Nat.zero_le _
  | succ n ih =>
    intro l hl g j
    rcases List.eq_nil_or_concat l with e | ⟨l', x, e⟩
    · subst e; cases hl
    · rw [List.concat_eq_append] at e
      subst e
      have h1 := ih l' (by simpa using hl) g.front j
      rw [sndN_snoc]
      by_cases e2 : sndB j x = true
      · have e3 : x.again = true ∧ x.j = j := by unfold sndB at e2; simpa using e2
        have := (g.last.again e3.1).2.1
        rw [e3.2] at this
        rw [if_pos e2]; omega
      · rw [if_neg e2]; exact h1
theorem cntS_all (tr : List Vis) (n : Nat) (h : ∀ x ∈ tr, x.j < n) : seconds tr = cntS tr n := by
  unfold seconds cntS
  apply List.countP_congr
  intro x hx
  simp [h x hx]
theorem cntS_le (tr : List Vis) (h : ∀ j, sndN tr j ≤ 1) : ∀ n, cntS tr n ≤ n := by
  intro n
  induction n with
  | zero => rw [cntS_zero]; exact Nat.le_refl _
  | succ n ih => rw [cntS_succ]; have := h n; omega
theorem Good.counts {len : Nat} {vals ext : Nat → Int} {l : List Vis} (g : Good len vals ext l) : firsts l = cntF l len ∧ seconds l = cntS l len ∧ firsts l ≤ len ∧ seconds l ≤ len := by
  have h1 := cntF_all l len g.lt
  have h2 := cntS_all l len g.lt
  exact ⟨h1, h2, by rw [h1]; exact cntF_le l (Good.fst1 _ l rfl g) len, by rw [h2]; exact cntS_le l (Good.snd1 _ l rfl g) len⟩
theorem Good.range {len : Nat} {vals ext : Nat → Int} {l : List Vis} (g : Good len vals ext l) (hv : ∀ j, 0 ≤ vals j ∧ vals j ≤ 255) (he : ∀ j, 0 ≤ ext j ∧ ext j ≤ 255) : ∀ x ∈ l, 0 ≤ x.v ∧ x.v ≤ 510 := fun x hx => by
  obtain ⟨pre, post, e⟩ := List.append_of_mem hx
  have s := g pre x post e
  have h1 := hv x.j
  have h2 := he x.j
  cases h : x.again with
  | false => rw [(s.first h).2]; omega
  | true => rw [(s.again h).2.2.1]; omega
theorem lastV_small {len : Nat} {vals ext : Nat → Int} {l : List Vis} (g : Good len vals ext l) (hv : ∀ j, 0 ≤ vals j ∧ vals j ≤ 255) (he : ∀ j, 0 ≤ ext j ∧ ext j ≤ 255) : Small (lastV l) := by
  unfold lastV
  by_cases h : l = []
  · subst h; exact small_of (by decide) (by decide)
  · rw [List.getLast?_eq_some_getLast h]
    have := g.range hv he _ (List.getLast_mem h)
    exact small_of (by simp only [Option.map_some, Option.getD_some]; omega) (by simp only [Option.map_some, Option.getD_some]; omega)

/-- The law's state. -/
structure EG (base : Nat) (c : Blk) (bar : Int) (x : Addr) (len cap : Nat) (vals : Nat → Int) (ax : Option Addr) (lenx capx : Nat) (ext : Nat → Int) (g : Gh) (F : Nat → Prop) (w : World) : Prop where
  foot : ∀ k, F k ↔ c.foot k
  fix : Fix base c bar x len cap vals ax lenx capx ext w
  var : Var base c len g.tr w

section
variable {base : Nat} {c : Blk} {bar : Int} {x : Addr} {len cap : Nat} {vals : Nat → Int} {ax : Option Addr} {lenx capx : Nat} {ext : Nat → Int}
theorem EG.lt {g : Gh} {F : Nat → Prop} {w : World} (o : c.Ok) (e : EG base c bar x len cap vals ax lenx capx ext g F w) (k : Nat) (h : F k) : k < w.heap.size := by
  obtain ⟨h1, h2, h3, h4, h5, h6, h7, h8, h9, h10, h11⟩ := o
  have lh := e.fix.lh
  rcases (e.foot k).1 h with h | h | h | h | h | h | h | h | h | h | h | h <;> omega
theorem EG.keep {g : Gh} {F S : Nat → Prop} {w w' : World} (o : c.Ok) (e : EG base c bar x len cap vals ax lenx capx ext g F w) (hc : Chg S w w') (hS : ∀ k, S k → base ≤ k ∧ ¬ F k) : EG base c bar x len cap vals ax lenx capx ext g F w' :=
  ⟨e.foot, e.fix.out o hc (fun k h => ⟨(hS k h).1, fun h' => (hS k h).2 ((e.foot k).2 h')⟩), e.var.out hc (fun k h h' => (hS k h).2 ((e.foot k).2 h'))⟩
theorem EG.first {b : Nat} {tr : List Vis} {F : Nat → Prop} {w : World} (o : c.Ok) (hb : base ≤ c.vb) (e : EG base c bar x len cap vals ax lenx capx ext ⟨b, tr⟩ F w) {u : Vis} (ha : u.again = false) :
    EG base c bar x len cap vals ax lenx capx ext ⟨b, tr ++ [u]⟩ F (visW w c.hv c.la c.n1 c.fr u.j (fl u.v) ((firsts tr : Int) + 1)) ∧ Chg F w (visW w c.hv c.la c.n1 c.fr u.j (fl u.v) ((firsts tr : Int) + 1)) := by
  have hc := visW_chg w c.hv c.la c.n1 c.fr u.j (fl u.v) ((firsts tr : Int) + 1)
  refine ⟨⟨e.foot, e.fix.chg o hc (fun k h => ?_) (visW_frozen w _ _ _ _ _ _ _), e.var.first o ha⟩, hc.mono (fun k _ h => (e.foot k).2 ?_)⟩
  · obtain ⟨h1, h2, h3, h4, h5, h6, h7, h8, h9, h10, h11⟩ := o
    rcases h with h | h | h | h <;> exact ⟨by omega, by omega, by omega, by omega, by omega, by omega, by omega⟩
  · unfold Blk.foot
    rcases h with h | h | h | h <;> simp [h]
theorem EG.second {b : Nat} {tr : List Vis} {F : Nat → Prop} {w : World} (o : c.Ok) (hb : base ≤ c.vb) (e : EG base c bar x len cap vals ax lenx capx ext ⟨b, tr⟩ F w) {u : Vis} (ha : u.again = true) :
    EG base c bar x len cap vals ax lenx capx ext ⟨b, tr ++ [u]⟩ F (visW w c.hv c.la c.n2 c.sr u.j (fl u.v) ((seconds tr : Int) + 1)) ∧ Chg F w (visW w c.hv c.la c.n2 c.sr u.j (fl u.v) ((seconds tr : Int) + 1)) := by
  have hc := visW_chg w c.hv c.la c.n2 c.sr u.j (fl u.v) ((seconds tr : Int) + 1)
  refine ⟨⟨e.foot, e.fix.chg o hc (fun k h => ?_) (visW_frozen w _ _ _ _ _ _ _), e.var.second o ha⟩, hc.mono (fun k _ h => (e.foot k).2 ?_)⟩
  · obtain ⟨h1, h2, h3, h4, h5, h6, h7, h8, h9, h10, h11⟩ := o
    rcases h with h | h | h | h <;> exact ⟨by omega, by omega, by omega, by omega, by omega, by omega, by omega⟩
  · unfold Blk.foot
    rcases h with h | h | h | h <;> simp [h]
end

def againClient (base : Nat) (c : Blk) (o : c.Ok) (hb : base ≤ c.vb) (bar : Int) (hbar : Small bar) (x : Addr) (len cap : Nat) (hlen : len ≤ 1024) (vals : Nat → Int) (hv : ∀ j, 0 ≤ vals j ∧ vals j ≤ 255) (ax : Option Addr) (lenx capx : Nat) (ext : Nat → Int) (he : ∀ j, 0 ≤ ext j ∧ ext j ≤ 255) : Client base where
  fv := 11
  fb := 12
  fn := 13
  fs := 14
  cb := #[.pointer (some ⟨c.bb, 0, none⟩)]
  cn := #[]
  cs := cellsOf c
  bar := bar
  ext := ext
  good := Good len vals ext
  E := EG base c bar x len cap vals ax lenx capx ext
  small := hbar
  entv := ent11
  entb := ent12
  entn := ent13
  ents := ent14
  lt := fun _ _ _ k e h => e.lt o k h
  keep := fun _ _ _ _ _ e hc hS => e.keep o hc hS
  value := value11
  barred := fun _ _ w e => bar12 w c.bb _ e.fix.cb
  bound := fun b tr F w j y e _ _ => (bound13 w j (fl y)).mono fun e' w' h => by
    obtain ⟨h1, h2⟩ := h
    subst h2
    exact ⟨h1, F, ⟨e.foot, e.fix, e.var⟩, Chg.refl _ _, fun k h => .inl h⟩
  visit := fun b tr F w u e hg => by
    have st := hg.last
    have hcn := hg.front.counts
    have hsm := lastV_small hg.front hv he
    have hlv : (!tr.isEmpty) = true → lastV tr ≤ u.v := fun h => lastV_le st (by intro h'; subst h'; simp at h)
    cases ha : u.again with
    | false =>
      obtain ⟨s1, s2⟩ := st.first ha
      rw [s2] at hlv
      have cr := e.var.rf.cellAt u.j (by have := st.lt; omega)
      rw [fstRow_at tr st.lt, decide_eq_false (by omega)] at cr
      refine (visit14_first w base c bar x len cap vals ax lenx capx ext e.fix o hb hlen u.j st.lt (!tr.isEmpty) (lastV tr) (firsts tr) hlv hsm (hv _) (he _) e.var.ch e.var.cl e.var.c1 (by omega) cr (e.var.rf.frozenAt u.j)).mono ?_ |> fun h => by rw [s2]; exact h
      rintro e' w' ⟨rfl, rfl⟩
      have hE := e.first o hb ha
      rw [s2] at hE
      refine ⟨⟨if 0 < ext u.j then fl (vals u.j + ext u.j) else 0, ?_, fun h => by rw [if_pos h.2]⟩, F, hE.1, hE.2, fun k h => .inl h⟩
      by_cases hx : 0 < ext u.j
      · simp [hx]
      · simp [hx]
    | true =>
      obtain ⟨s1, s2, s3, s4⟩ := st.again ha
      have cr := e.var.rf.cellAt u.j (by have := st.lt; omega)
      rw [fstRow_at tr st.lt, decide_eq_true (by omega)] at cr
      have cr2 := e.var.rs.cellAt u.j (by have := st.lt; omega)
      rw [sndRow_at tr st.lt, decide_eq_false (by omega)] at cr2
      rw [s3] at hlv
      refine (visit14_second w base c bar x len cap vals ax lenx capx ext e.fix o hb hlen u.j st.lt (!tr.isEmpty) (lastV tr) (seconds tr) hlv hsm (hv _) (he _) s4 e.var.ch e.var.cl e.var.c2 (by omega) cr cr2 (e.var.rs.frozenAt u.j)).mono ?_ |> fun h => by rw [s3]; exact h
      rintro e' w' ⟨rfl, rfl⟩
      have hE := e.second o hb ha
      rw [s3] at hE
      refine ⟨⟨0, ?_, fun h => by cases h.1⟩, F, hE.1, hE.2, fun k h => .inl h⟩
      rw [if_neg (fun h => by cases h.1), decide_eq_false (fun h => by cases h.1)]
end Go.Proofs.Ybulkbuhe
