/-
  leastFirst in plain words: the nodes stepped into; the summing anew.
-/
import Derived.Test.YbulkbuheB5
namespace Go.Proofs.Ybulkbuhe
open Go.RowKit Fl

def isIn (ent : List Stp) (n : Nat) : Prop := ∃ e ∈ ent, e.n = n
theorem isIn_snoc (ent : List Stp) (e : Stp) (n : Nat) : isIn (ent ++ [e]) n ↔ isIn ent n ∨ e.n = n := by
  unfold isIn
  constructor
  · rintro ⟨x, hx, h⟩
    rcases List.mem_append.1 hx with hx | hx
    · exact .inl ⟨x, hx, h⟩
    · rw [List.mem_singleton.1 hx] at h; exact .inr h
  · rintro (⟨x, hx, h⟩ | h)
    · exact ⟨x, List.mem_append.2 (.inl hx), h⟩
    · exact ⟨e, List.mem_append.2 (.inr (List.mem_singleton.2 rfl)), h⟩

structure Ents (h : Shape) (q : List Un) (tr : List Vis) (ent : List Stp) : Prop where
  head : ent[0]? = some ⟨h.root, 0, 0⟩
  ein : ∀ e ∈ ent, 1 ≤ e.n ∧ e.n < h.N
  par : ∀ (k : Nat) e, ent[k]? = some e → 0 < k → ∃ k' e', k' < k ∧ ent[k']? = some e' ∧ e'.n = e.above ∧ h.leaf e.above = false ∧ e.i < h.cnt e.above ∧ h.ref e.above e.i = e.n
  dup : ∀ (k k' : Nat) e e', ent[k]? = some e → ent[k']? = some e' → e.n = e'.n → k = k'
  qin : ∀ u ∈ q, isIn ent u.n
  r5 : ∀ j, 0 < fstN tr j → ∀ n i, isIn ent n → h.leaf n = false → i < h.cnt n → h.s n i ≤ j → j < h.s n (i + 1) → isIn ent (h.ref n i)
  r6 : ∀ u ∈ q, u.again = false → ∀ n i j, isIn ent n → h.leaf n = false → i < h.cnt n → h.s n i ≤ j → j < h.s n (i + 1) → h.s u.n u.i ≤ j → j < h.s u.n (u.i + 1) → isIn ent (h.ref n i) ∨ (u.n = n ∧ u.i = i)
  r8 : ∀ u ∈ q, u.again = false → h.leaf u.n = false → ¬ isIn ent (h.ref u.n u.i)

section
variable {h : Shape} {key bar : Int} {vals ext : Nat → Int} {q q1 : List Un} {tr : List Vis} {sm : Nat → Nat → Int} {sn : Nat → Int} {b k : Nat} {u : Un} {ent : List Stp}

theorem Ents.perm (E : Ents h q tr ent) (p : List.Perm q q1) : Ents h q1 tr ent :=
  ⟨E.head, E.ein, E.par, E.dup, fun u hu => E.qin u (p.mem_iff.2 hu), E.r5, fun u hu => E.r6 u (p.mem_iff.2 hu), fun u hu => E.r8 u (p.mem_iff.2 hu)⟩

theorem Ents.start (o : h.Ok) : Ents h (newsTo h sm key bar h.root (h.cnt h.root)) [] [⟨h.root, 0, 0⟩] := by
  have k1 := o.root1
  have kN : h.root < h.N := by have := o.rootN; omega
  have hn := mem_newsTo h sm key bar h.root (h.cnt h.root)
  have hin : ∀ n, isIn [⟨h.root, 0, 0⟩] n → n = h.root := fun n ⟨e, he, hen⟩ => by rw [List.mem_singleton.1 he] at hen; exact hen.symm
  have hk : ∀ (k : Nat) (e : Stp), [(⟨h.root, 0, 0⟩ : Stp)][k]? = some e → k = 0 := fun k e hk => by
    rcases Nat.eq_zero_or_pos k with e0 | e0
    · exact e0
    · rw [List.getElem?_eq_none (by simp; omega)] at hk; cases hk
  refine ⟨rfl, fun e he => ?_, fun k e he k0 => ?_, fun k k' e e' he he' _ => ?_, fun x hx => ?_, fun j hj => ?_, fun x hx hxa n i j n1 n2 n3 a1 a2 b1 b2 => ?_, fun x hx hxa hl => ?_⟩
  · rw [List.mem_singleton.1 he]; exact ⟨k1, kN⟩
  · have := hk k e he; omega
  · rw [hk k e he, hk k' e' he']
  · obtain ⟨i, hi, _, rfl⟩ := (hn x).1 hx
    exact ⟨_, List.mem_singleton.2 rfl, rfl⟩
  · simp [fstN] at hj
  · obtain ⟨i', hi', _, rfl⟩ := (hn x).1 hx
    have e := hin n n1
    subst e
    exact .inr ⟨rfl, o.same k1 kN hi' n3 b1 b2 a1 a2⟩
  · obtain ⟨i', hi', _, rfl⟩ := (hn x).1 hx
    intro e
    have e1 := hin _ e
    have e2 := (o.kids h.root i' k1 kN hi' hl).2.1
    have e3 : h.ref h.root i' = h.root := e1
    omega

theorem Ents.branch (E : Ents h (u :: q1) tr ent) (I : Inv h key bar vals ext (u :: q1) tr sm b) (o : h.Ok) (ha : u.again = false) (hl : h.leaf u.n = false) :
    Ents h (newsTo h sm key bar (h.ref u.n u.i) (h.cnt (h.ref u.n u.i)) ++ q1) tr (ent ++ [⟨h.ref u.n u.i, u.n, u.i⟩]) := by
  obtain ⟨p1, p2, p3⟩ := I.pos u (List.mem_cons_self ..)
  obtain ⟨k1, k2, k3, k4, _⟩ := o.kids u.n u.i p1 p2 p3 hl
  have kN : h.ref u.n u.i < h.N := by omega
  have hur := o.lt u.n u.i p1 p2 p3
  have hn := mem_newsTo h sm key bar (h.ref u.n u.i) (h.cnt (h.ref u.n u.i))
  have hun := E.qin u (List.mem_cons_self ..)
  have hnew := E.r8 u (List.mem_cons_self ..) ha hl
  have hone : ∀ j, covers h j u = true → cov h q1 j = 0 ∧ fstN tr j = 0 := fun j hj => by
    have := I.one j
    rw [cov_cons, if_pos hj] at this
    omega
  have hq1 : ∀ x ∈ q1, x.again = false → ∀ j, h.s x.n x.i ≤ j → j < h.s x.n (x.i + 1) → h.s u.n u.i ≤ j → j < h.s u.n (u.i + 1) → False := fun x hx hxa j a1 a2 b1 b2 => by
    have h0 := (hone j ((covers_iff j u ha).2 ⟨b1, b2⟩)).1
    have : 0 < cov h q1 j := by
      unfold cov
      exact List.countP_pos_iff.2 ⟨x, hx, (covers_iff j x hxa).2 ⟨a1, a2⟩⟩
    omega
  have hrng : ∀ i j, i < h.cnt (h.ref u.n u.i) → h.s (h.ref u.n u.i) i ≤ j → j < h.s (h.ref u.n u.i) (i + 1) → h.s u.n u.i ≤ j ∧ j < h.s u.n (u.i + 1) := fun i j hi a b => by
    have a1 := o.le k1 kN (Nat.zero_le i) (by omega)
    have a2 := o.le k1 kN (show i + 1 ≤ h.cnt (h.ref u.n u.i) by omega) (Nat.le_refl _)
    omega
  have hlast : ∀ k e, (ent ++ [(⟨h.ref u.n u.i, u.n, u.i⟩ : Stp)])[k]? = some e → (k < ent.length ∧ ent[k]? = some e) ∨ (k = ent.length ∧ e = ⟨h.ref u.n u.i, u.n, u.i⟩) := fun k e hk => by
    rcases Nat.lt_trichotomy k ent.length with e0 | e0 | e0
    · rw [List.getElem?_append_left e0] at hk; exact .inl ⟨e0, hk⟩
    · subst e0
      rw [List.getElem?_append_right (Nat.le_refl _)] at hk
      simp at hk
      exact .inr ⟨rfl, hk.symm⟩
    · rw [List.getElem?_eq_none (by simp; omega)] at hk; cases hk
  have hle : ∀ (k : Nat) e, ent[k]? = some e → k < ent.length := fun k e hk => by
    rcases Nat.lt_or_ge k ent.length with e0 | e0
    · exact e0
    · rw [List.getElem?_eq_none e0] at hk; cases hk
  refine ⟨?_, fun e he => ?_, fun k e he k0 => ?_, fun k k' e e' he he' hee => ?_, fun x hx => ?_, fun j hj n i n1 n2 n3 a1 a2 => ?_, fun x hx hxa n i j n1 n2 n3 a1 a2 b1 b2 => ?_, fun x hx hxa hxl => ?_⟩
  · rw [List.getElem?_append_left (hle 0 _ E.head)]; exact E.head
  · rcases List.mem_append.1 he with he | he
    · exact E.ein e he
    · rw [List.mem_singleton.1 he]; exact ⟨k1, kN⟩
  · rcases hlast k e he with ⟨kl, he⟩ | ⟨kl, rfl⟩
    · obtain ⟨k', e', x1, x2, x3⟩ := E.par k e he k0
      exact ⟨k', e', x1, by rw [List.getElem?_append_left (by omega)]; exact x2, x3⟩
    · obtain ⟨e', he', hn'⟩ := hun
      obtain ⟨k', hk', hke⟩ := List.getElem_of_mem he'
      exact ⟨k', e', by omega, by rw [List.getElem?_append_left hk', List.getElem?_eq_getElem hk', hke], hn', hl, p3, rfl⟩
  · rcases hlast k e he with ⟨kl, he⟩ | ⟨kl, rfl⟩
    · rcases hlast k' e' he' with ⟨kl', he'⟩ | ⟨kl', rfl⟩
      · exact E.dup k k' e e' he he' hee
      · exact absurd ⟨e, List.mem_of_getElem? he, hee⟩ hnew
    · rcases hlast k' e' he' with ⟨kl', he'⟩ | ⟨kl', rfl⟩
      · exact absurd ⟨e', List.mem_of_getElem? he', hee.symm⟩ hnew
      · rw [kl, kl']
  · rw [isIn_snoc]
    rcases List.mem_append.1 hx with hx | hx
    · obtain ⟨i, hi, _, rfl⟩ := (hn x).1 hx
      exact .inr rfl
    · exact .inl (E.qin x (List.mem_cons_of_mem _ hx))
  · rw [isIn_snoc] at n1 ⊢
    rcases n1 with n1 | n1
    · exact .inl (E.r5 j hj n i n1 n2 n3 a1 a2)
    · exfalso
      have n1' : h.ref u.n u.i = n := n1
      subst n1'
      obtain ⟨r1, r2⟩ := hrng i j n3 a1 a2
      have := (hone j ((covers_iff j u ha).2 ⟨r1, r2⟩)).2
      omega
  · rw [isIn_snoc] at n1 ⊢
    rcases List.mem_append.1 hx with hx | hx
    · obtain ⟨i', hi', _, rfl⟩ := (hn x).1 hx
      obtain ⟨r1, r2⟩ := hrng i' j hi' b1 b2
      rcases n1 with n1 | n1
      · rcases E.r6 u (List.mem_cons_self ..) ha n i j n1 n2 n3 a1 a2 r1 r2 with e | ⟨e1, e2⟩
        · exact .inl (.inl e)
        · subst e1; subst e2; exact .inl (.inr rfl)
      · have n1' : h.ref u.n u.i = n := n1
        subst n1'
        exact .inr ⟨rfl, o.same k1 kN hi' n3 b1 b2 a1 a2⟩
    · rcases n1 with n1 | n1
      · rcases E.r6 x (List.mem_cons_of_mem _ hx) hxa n i j n1 n2 n3 a1 a2 b1 b2 with e | e
        · exact .inl (.inl e)
        · exact .inr e
      · exfalso
        have n1' : h.ref u.n u.i = n := n1
        subst n1'
        obtain ⟨r1, r2⟩ := hrng i j n3 a1 a2
        exact hq1 x hx hxa j b1 b2 r1 r2
  · rw [isIn_snoc]
    rintro (e | e)
    · rcases List.mem_append.1 hx with hx | hx
      · obtain ⟨i', hi', _, rfl⟩ := (hn x).1 hx
        -- the child was stepped into: so was its parent
        obtain ⟨e1, he1, hn1⟩ := e
        obtain ⟨kk, hkk, hke⟩ := List.getElem_of_mem he1
        have hke' : ent[kk]? = some e1 := by rw [List.getElem?_eq_getElem hkk, hke]
        obtain ⟨c1, c2, _⟩ := o.kids (h.ref u.n u.i) i' k1 kN hi' hxl
        have hn1' : e1.n = h.ref (h.ref u.n u.i) i' := hn1
        rcases Nat.eq_zero_or_pos kk with e0 | e0
        · subst e0
          rw [E.head] at hke'
          cases hke'
          have h5 : h.root = h.ref (h.ref u.n u.i) i' := hn1'
          have := o.rootN
          omega
        · obtain ⟨k', e', x1, x2, x3, x4, x5, x6⟩ := E.par kk e1 hke' e0
          have hab := E.ein e' (List.mem_of_getElem? x2)
          rw [x3] at hab
          obtain ⟨y1, _⟩ := o.inj e1.above e1.i (h.ref u.n u.i) i' hab.1 hab.2 x5 x4 k1 kN hi' hxl (x6.trans hn1')
          exact hnew ⟨e', List.mem_of_getElem? x2, x3.trans y1⟩
      · exact E.r8 x (List.mem_cons_of_mem _ hx) hxa hxl e
    · have e' : h.ref u.n u.i = h.ref x.n x.i := e
      rcases List.mem_append.1 hx with hx | hx
      · obtain ⟨i', hi', _, rfl⟩ := (hn x).1 hx
        obtain ⟨c1, c2, _⟩ := o.kids (h.ref u.n u.i) i' k1 kN hi' hxl
        have e2 : h.ref u.n u.i = h.ref (h.ref u.n u.i) i' := e'
        omega
      · obtain ⟨q1', q2', q3'⟩ := I.pos x (List.mem_cons_of_mem _ hx)
        obtain ⟨y1, y2⟩ := o.inj u.n u.i x.n x.i p1 p2 p3 hl q1' q2' q3' hxl e'
        exact hq1 x hx hxa (h.s u.n u.i) (by rw [← y1, ← y2]; exact Nat.le_refl _) (by rw [← y1, ← y2]; exact hur) (Nat.le_refl _) hur

theorem Ents.first (E : Ents h (u :: q1) tr ent) (ha : u.again = false) (hl : h.leaf u.n = true) (hr : h.s u.n (u.i + 1) = h.s u.n u.i + 1) : Ents h (backs ext h u ++ q1) (tr ++ [⟨h.s u.n u.i, u.v, false⟩]) ent := by
  have hbm : ∀ x ∈ backs ext h u, x.again = true ∧ x.n = u.n := fun x hx => by
    unfold backs at hx
    split at hx
    · rw [List.mem_singleton.1 hx]; exact ⟨rfl, rfl⟩
    · cases hx
  refine ⟨E.head, E.ein, E.par, E.dup, fun x hx => ?_, fun j hj n i n1 n2 n3 a1 a2 => ?_, fun x hx hxa => ?_, fun x hx hxa => ?_⟩
  · rcases List.mem_append.1 hx with hx | hx
    · rw [(hbm x hx).2]; exact E.qin u (List.mem_cons_self ..)
    · exact E.qin x (List.mem_cons_of_mem _ hx)
  · rw [fstN_snoc] at hj
    by_cases e : 0 < fstN tr j
    · exact E.r5 j e n i n1 n2 n3 a1 a2
    · have e2 : h.s u.n u.i = j := by
        by_cases e3 : h.s u.n u.i = j
        · exact e3
        · rw [if_neg (by simp [fstB, e3])] at hj; omega
      rcases E.r6 u (List.mem_cons_self ..) ha n i j n1 n2 n3 a1 a2 (by omega) (by omega) with e3 | ⟨e3, _⟩
      · exact e3
      · rw [← e3, hl] at n2; cases n2
  · rcases List.mem_append.1 hx with hx | hx
    · rw [(hbm x hx).1] at hxa; cases hxa
    · exact E.r6 x (List.mem_cons_of_mem _ hx) hxa
  · rcases List.mem_append.1 hx with hx | hx
    · rw [(hbm x hx).1] at hxa; cases hxa
    · exact E.r8 x (List.mem_cons_of_mem _ hx) hxa
theorem Ents.second (E : Ents h (u :: q1) tr ent) (j : Nat) (v : Int) : Ents h q1 (tr ++ [⟨j, v, true⟩]) ent :=
  ⟨E.head, E.ein, E.par, E.dup, fun x hx => E.qin x (List.mem_cons_of_mem _ hx), fun j hj => E.r5 j (by rw [fstN_snoc] at hj; simpa [fstB] using hj), fun x hx => E.r6 x (List.mem_cons_of_mem _ hx), fun x hx => E.r8 x (List.mem_cons_of_mem _ hx)⟩

/-! The summing anew. -/
def curOf (vals ext : Nat → Int) (tr : List Vis) (j : Nat) : Int := if 0 < fstN tr j then vals j + ext j else vals j
/-- The least of the entries is the least of the node. -/
theorem min_join (o : h.Ok) {f : Nat → Int} {n : Nat} (h1 : 1 ≤ n) (h2 : n < h.N) {x : Nat → Int} (hx : ∀ i, i < h.cnt n → IsMin f (h.s n i) (h.s n (i + 1)) (x i)) : IsMin f (h.s n 0) (h.s n (h.cnt n)) (mn x (h.cnt n - 1)) := by
  have c1 := o.cnt1 n h1 h2
  have hm := mn_min x (h.cnt n - 1)
  rw [show h.cnt n - 1 + 1 = h.cnt n by omega] at hm
  refine ⟨fun j a b => ?_, ?_⟩
  · obtain ⟨i, hi, i1, i2⟩ := h.find (n := n) a b
    exact Int.le_trans (hm.1 i (Nat.zero_le _) hi) ((hx i hi).1 j i1 i2)
  · obtain ⟨i, _, hi, hxi⟩ := hm.2
    obtain ⟨j, j1, j2, hj⟩ := (hx i hi).2
    have a1 := o.le h1 h2 (Nat.zero_le i) (by omega)
    have a2 := o.le h1 h2 (show i + 1 ≤ h.cnt n by omega) (Nat.le_refl _)
    exact ⟨j, by omega, by omega, hxi.trans hj⟩

/-- The nodes from index k on are summed anew. -/
structure Fresh (h : Shape) (vals ext : Nat → Int) (tr : List Vis) (ent : List Stp) (sm : Nat → Nat → Int) (sn : Nat → Int) (k : Nat) : Prop where
  leaf : ∀ n i, 1 ≤ n → n < h.N → i < h.cnt n → h.leaf n = true → sm n i = curOf vals ext tr (h.s n i)
  node : ∀ (k' : Nat) e, k ≤ k' → ent[k']? = some e → IsMin (curOf vals ext tr) (h.s e.n 0) (h.s e.n (h.cnt e.n)) (sn e.n)
  new : ∀ n i, 1 ≤ n → n < h.N → i < h.cnt n → h.leaf n = false → ∀ (k' : Nat) e, k ≤ k' → ent[k']? = some e → e.n = h.ref n i → IsMin (curOf vals ext tr) (h.s n i) (h.s n (i + 1)) (sm n i)
  old : ∀ n i, 1 ≤ n → n < h.N → i < h.cnt n → h.leaf n = false → (∀ (k' : Nat) e, k ≤ k' → ent[k']? = some e → e.n ≠ h.ref n i) → IsMin vals (h.s n i) (h.s n (i + 1)) (sm n i)

theorem Fresh.start (I : Inv h key bar vals ext q tr sm b) : Fresh h vals ext tr ent sm sn ent.length := by
  have hno : ∀ (k' : Nat) (e : Stp), ent.length ≤ k' → ent[k']? = some e → False := fun k' e hk he => by rw [List.getElem?_eq_none hk] at he; cases he
  exact ⟨I.leaf, fun k' e hk he => (hno k' e hk he).elim, fun n i _ _ _ _ k' e hk he => (hno k' e hk he).elim, fun n i n1 n2 n3 n4 _ => I.br n i n1 n2 n3 n4⟩

theorem Fresh.sum (R : Fresh h vals ext tr ent sm sn (k + 1)) (E : Ents h q tr ent) (o : h.Ok) {e : Stp} (he : ent[k]? = some e) : IsMin (curOf vals ext tr) (h.s e.n 0) (h.s e.n (h.cnt e.n)) (mn (sm e.n) (h.cnt e.n - 1)) := by
  obtain ⟨n1, n2⟩ := E.ein e (List.mem_of_getElem? he)
  refine min_join o n1 n2 (fun i hi => ?_)
  cases hl : h.leaf e.n with
  | true =>
    have e1 := (o.leafs e.n i n1 n2 hi hl).2
    rw [R.leaf e.n i n1 n2 hi hl, e1]
    exact ⟨fun j a b => by rw [show j = h.s e.n i by omega]; exact Int.le_refl _, h.s e.n i, Nat.le_refl _, by omega, rfl⟩
  | false =>
    by_cases hin : isIn ent (h.ref e.n i)
    · obtain ⟨e1, he1, hn1⟩ := hin
      obtain ⟨kk, hkk, hke⟩ := List.getElem_of_mem he1
      have hke' : ent[kk]? = some e1 := by rw [List.getElem?_eq_getElem hkk, hke]
      obtain ⟨c1, c2, _⟩ := o.kids e.n i n1 n2 hi hl
      refine R.new e.n i n1 n2 hi hl kk e1 ?_ hke' hn1
      rcases Nat.eq_zero_or_pos kk with e0 | e0
      · subst e0
        rw [E.head] at hke'
        cases hke'
        have h5 : h.root = h.ref e.n i := hn1
        have := o.rootN
        omega
      · obtain ⟨k', e', x1, x2, x3, x4, x5, x6⟩ := E.par kk e1 hke' e0
        have hab := E.ein e' (List.mem_of_getElem? x2)
        rw [x3] at hab
        obtain ⟨y1, _⟩ := o.inj e1.above e1.i e.n i hab.1 hab.2 x5 x4 n1 n2 hi hl (x6.trans hn1)
        have := E.dup k' k e' e x2 he (x3.trans y1)
        omega
    · refine (R.old e.n i n1 n2 hi hl (fun k' e' _ he' hn' => hin ⟨e', List.mem_of_getElem? he', hn'⟩)).congr (fun j a b => ?_)
      unfold curOf
      rw [if_neg]
      intro hj
      exact hin (E.r5 j hj e.n i ⟨e, List.mem_of_getElem? he, rfl⟩ hl hi a b)

theorem Fresh.step (R : Fresh h vals ext tr ent sm sn (k + 1)) (E : Ents h q tr ent) (o : h.Ok) {e : Stp} (he : ent[k]? = some e) {sm' : Nat → Nat → Int}
    (hs : (k = 0 ∧ sm' = sm) ∨ (0 < k ∧ sm' = up2 sm e.above e.i (mn (sm e.n) (h.cnt e.n - 1)))) : Fresh h vals ext tr ent sm' (up1 sn e.n (mn (sm e.n) (h.cnt e.n - 1))) k := by
  obtain ⟨n1, n2⟩ := E.ein e (List.mem_of_getElem? he)
  have hsum := R.sum E o he
  have hnode : ∀ (k' : Nat) e', k ≤ k' → ent[k']? = some e' → IsMin (curOf vals ext tr) (h.s e'.n 0) (h.s e'.n (h.cnt e'.n)) (up1 sn e.n (mn (sm e.n) (h.cnt e.n - 1)) e'.n) := fun k' e' hk he' => by
    unfold up1
    by_cases e0 : e'.n = e.n
    · rw [if_pos e0, e0]; exact hsum
    · rw [if_neg e0]
      refine R.node k' e' ?_ he'
      rcases Nat.lt_or_ge k k' with x | x
      · exact x
      · have : k' = k := by omega
        subst this
        rw [he] at he'
        cases he'
        exact absurd rfl e0
  rcases hs with ⟨k0, rfl⟩ | ⟨k0, rfl⟩
  · have hroot : ∀ n i, 1 ≤ n → n < h.N → i < h.cnt n → h.leaf n = false → e.n ≠ h.ref n i := fun n i a1 a2 a3 a4 e1 => by
      subst k0
      rw [E.head] at he
      cases he
      have := (o.kids n i a1 a2 a3 a4).2.1
      have h5 : h.root = h.ref n i := e1
      have := o.rootN
      omega
    refine ⟨R.leaf, hnode, fun n i a1 a2 a3 a4 k' e' hk he' hn' => ?_, fun n i a1 a2 a3 a4 hno => R.old n i a1 a2 a3 a4 (fun k' e' hk => hno k' e' (by omega))⟩
    rcases Nat.lt_or_ge k k' with x | x
    · exact R.new n i a1 a2 a3 a4 k' e' x he' hn'
    · have : k' = k := by omega
      subst this
      rw [he] at he'
      cases he'
      exact absurd hn' (hroot n i a1 a2 a3 a4)
  · obtain ⟨kp, ep, x1, x2, x3, x4, x5, x6⟩ := E.par k e he k0
    have hab := E.ein ep (List.mem_of_getElem? x2)
    rw [x3] at hab
    obtain ⟨_, _, c3, c4, _⟩ := o.kids e.above e.i hab.1 hab.2 x5 x4
    rw [x6] at c3 c4
    refine ⟨fun n i a1 a2 a3 a4 => ?_, hnode, fun n i a1 a2 a3 a4 k' e' hk he' hn' => ?_, fun n i a1 a2 a3 a4 hno => ?_⟩
    · unfold up2
      rw [if_neg (by rintro ⟨rfl, rfl⟩; rw [x4] at a4; cases a4)]
      exact R.leaf n i a1 a2 a3 a4
    · unfold up2
      by_cases e0 : n = e.above ∧ i = e.i
      · rw [if_pos e0, e0.1, e0.2, ← c3, ← c4]; exact hsum
      · rw [if_neg e0]
        rcases Nat.lt_or_ge k k' with x | x
        · exact R.new n i a1 a2 a3 a4 k' e' x he' hn'
        · have : k' = k := by omega
          subst this
          rw [he] at he'
          cases he'
          exact absurd (o.inj n i e.above e.i a1 a2 a3 a4 hab.1 hab.2 x5 x4 (hn'.symm.trans x6.symm)) e0
    · unfold up2
      rw [if_neg (by rintro ⟨rfl, rfl⟩; exact hno k e (Nat.le_refl _) he x6.symm)]
      exact R.old n i a1 a2 a3 a4 (fun k' e' hk => hno k' e' (by omega))
end
end Go.Proofs.Ybulkbuhe
