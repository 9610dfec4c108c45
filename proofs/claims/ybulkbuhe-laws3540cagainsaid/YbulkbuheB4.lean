/-
  leastFirst in plain words: the invariant of its loop.
-/
import Derived.Test.YbulkbuheB3
namespace Go.Proofs.Ybulkbuhe
open Go.RowKit Fl

structure Inv (h : Shape) (key bar : Int) (vals ext : Nat → Int) (q : List Un) (tr : List Vis) (sm : Nat → Nat → Int) (b : Nat) : Prop where
  pos : ∀ u ∈ q, 1 ≤ u.n ∧ u.n < h.N ∧ u.i < h.cnt u.n
  fst : ∀ u ∈ q, u.again = false → u.v = sm u.n u.i ∧ u.v < bar ∧ key < (h.s u.n (u.i + 1) : Int) - 1
  ag : ∀ u ∈ q, u.again = true → h.leaf u.n = true ∧ u.v = vals (h.s u.n u.i) + ext (h.s u.n u.i)
  one : ∀ j, cov h q j + fstN tr j ≤ 1
  all : ∀ j : Nat, key < j → j < h.len → vals j < bar → cov h q j + fstN tr j = 1
  fw : ∀ j : Nat, 0 < fstN tr j → key < j ∧ j < h.len ∧ vals j < bar
  again : ∀ j, 0 < fstN tr j → 0 < ext j → agn h q j + sndN tr j = 1
  noag : ∀ j, fstN tr j = 0 ∨ ext j ≤ 0 → agn h q j + sndN tr j = 0
  sndv : ∀ j, 0 < sndN tr j → vals j + ext j < bar
  leaf : ∀ n i, 1 ≤ n → n < h.N → i < h.cnt n → h.leaf n = true → sm n i = if 0 < fstN tr (h.s n i) then vals (h.s n i) + ext (h.s n i) else vals (h.s n i)
  br : ∀ n i, 1 ≤ n → n < h.N → i < h.cnt n → h.leaf n = false → IsMin vals (h.s n i) (h.s n (i + 1)) (sm n i)
  le : ∀ x ∈ tr, ∀ u ∈ q, x.v ≤ u.v
  good : Good h.len vals ext tr
  bnd : b = lfs h q + firsts tr

section
variable {h : Shape} {key bar : Int} {vals ext : Nat → Int} {q q1 : List Un} {tr : List Vis} {sm : Nat → Nat → Int} {b : Nat} {u : Un}

theorem Inv.perm (I : Inv h key bar vals ext q tr sm b) (p : List.Perm q q1) : Inv h key bar vals ext q1 tr sm b := by
  have hc : ∀ j, cov h q1 j = cov h q j := fun j => p.symm.countP_eq _
  have ha : ∀ j, agn h q1 j = agn h q j := fun j => p.symm.countP_eq _
  have hl : lfs h q1 = lfs h q := p.symm.countP_eq _
  exact ⟨fun u hu => I.pos u (p.mem_iff.2 hu), fun u hu => I.fst u (p.mem_iff.2 hu), fun u hu => I.ag u (p.mem_iff.2 hu), fun j => by rw [hc]; exact I.one j, fun j => by rw [hc]; exact I.all j, I.fw, fun j => by rw [ha]; exact I.again j, fun j => by rw [ha]; exact I.noag j, I.sndv, I.leaf, I.br, fun x hx u hu => I.le x hx u (p.mem_iff.2 hu), I.good, by rw [hl]; exact I.bnd⟩

theorem cov_cons (u : Un) (q : List Un) (j : Nat) : cov h (u :: q) j = cov h q j + if covers h j u = true then 1 else 0 := by unfold cov; rw [List.countP_cons]
theorem agn_cons (u : Un) (q : List Un) (j : Nat) : agn h (u :: q) j = agn h q j + if agains h j u = true then 1 else 0 := by unfold agn; rw [List.countP_cons]
theorem lfs_cons (u : Un) (q : List Un) : lfs h (u :: q) = lfs h q + if (!u.again && h.leaf u.n) = true then 1 else 0 := by unfold lfs; rw [List.countP_cons]
theorem cov_app (a c : List Un) (j : Nat) : cov h (a ++ c) j = cov h a j + cov h c j := by unfold cov; rw [List.countP_append]
theorem agn_app (a c : List Un) (j : Nat) : agn h (a ++ c) j = agn h a j + agn h c j := by unfold agn; rw [List.countP_append]
theorem lfs_app (a c : List Un) : lfs h (a ++ c) = lfs h a + lfs h c := by unfold lfs; rw [List.countP_append]
theorem fstN_snoc (tr : List Vis) (x : Vis) (j : Nat) : fstN (tr ++ [x]) j = fstN tr j + if fstB j x = true then 1 else 0 := by unfold fstN; rw [List.countP_append, List.countP_singleton]
theorem sndN_snoc (tr : List Vis) (x : Vis) (j : Nat) : sndN (tr ++ [x]) j = sndN tr j + if sndB j x = true then 1 else 0 := by unfold sndN; rw [List.countP_append, List.countP_singleton]
theorem firsts_snoc (tr : List Vis) (x : Vis) : firsts (tr ++ [x]) = firsts tr + if (!x.again) = true then 1 else 0 := by unfold firsts; rw [List.countP_append, List.countP_singleton]
theorem covers_iff (j : Nat) (u : Un) (ha : u.again = false) : covers h j u = true ↔ h.s u.n u.i ≤ j ∧ j < h.s u.n (u.i + 1) := by unfold covers; simp [ha]
theorem covers_again (j : Nat) (u : Un) (ha : u.again = true) : covers h j u = false := by unfold covers; simp [ha]
theorem agains_first (j : Nat) (u : Un) (ha : u.again = false) : agains h j u = false := by unfold agains; simp [ha]
theorem agains_iff (j : Nat) (u : Un) (ha : u.again = true) : agains h j u = true ↔ h.s u.n u.i = j := by unfold agains; simp [ha]

/-- The values of a node's entries are no less than that of the entry above. -/
theorem Inv.kidval (I : Inv h key bar vals ext (u :: q1) tr sm b) (o : h.Ok) (ha : u.again = false) (hl : h.leaf u.n = false) {i : Nat} (hi : i < h.cnt (h.ref u.n u.i)) : u.v ≤ sm (h.ref u.n u.i) i := by
  obtain ⟨p1, p2, p3⟩ := I.pos u (List.mem_cons_self ..)
  obtain ⟨k1, k2, k3, k4, _⟩ := o.kids u.n u.i p1 p2 p3 hl
  have kN : h.ref u.n u.i < h.N := by omega
  have hv := (I.fst u (List.mem_cons_self ..) ha).1
  have hm := I.br u.n u.i p1 p2 p3 hl
  have a1 := o.le k1 kN (Nat.zero_le i) (by omega)
  have a2 := o.le k1 kN (show i + 1 ≤ h.cnt (h.ref u.n u.i) by omega) (Nat.le_refl _)
  have a3 := o.lt _ i k1 kN hi
  rw [hv]
  cases hlf : h.leaf (h.ref u.n u.i) with
  | true =>
    have e := I.leaf _ i k1 kN hi hlf
    have hc : covers h (h.s (h.ref u.n u.i) i) u = true := (covers_iff _ u ha).2 ⟨by omega, by omega⟩
    have h1 := I.one (h.s (h.ref u.n u.i) i)
    rw [cov_cons, if_pos hc] at h1
    rw [e, if_neg (by omega)]
    exact hm.1 _ (by omega) (by omega)
  | false =>
    obtain ⟨j, j1, j2, hj⟩ := (I.br _ i k1 kN hi hlf).2
    rw [hj]
    exact hm.1 j (by omega) (by omega)

theorem Inv.branch (I : Inv h key bar vals ext (u :: q1) tr sm b) (o : h.Ok) (ha : u.again = false) (hl : h.leaf u.n = false) :
    Inv h key bar vals ext (newsTo h sm key bar (h.ref u.n u.i) (h.cnt (h.ref u.n u.i)) ++ q1) tr sm (b + if h.leaf (h.ref u.n u.i) = true then (newsTo h sm key bar (h.ref u.n u.i) (h.cnt (h.ref u.n u.i))).length else 0) := by
  obtain ⟨p1, p2, p3⟩ := I.pos u (List.mem_cons_self ..)
  obtain ⟨k1, k2, k3, k4, _⟩ := o.kids u.n u.i p1 p2 p3 hl
  have kN : h.ref u.n u.i < h.N := by omega
  have hkv := fun i hi => I.kidval o ha hl (i := i) hi
  have hn := mem_newsTo h sm key bar (h.ref u.n u.i) (h.cnt (h.ref u.n u.i))
  have hcv := fun j => news_cov h sm key bar (h.ref u.n u.i) o k1 kN j _ (Nat.le_refl _)
  rw [k3, k4] at hcv
  have hlow : ∀ j, cov h (newsTo h sm key bar (h.ref u.n u.i) (h.cnt (h.ref u.n u.i))) j ≤ if covers h j u = true then 1 else 0 := fun j => by
    have := hcv j
    by_cases e : h.s u.n u.i ≤ j ∧ j < h.s u.n (u.i + 1)
    · rw [if_pos e] at this; rw [if_pos ((covers_iff j u ha).2 e)]; exact this
    · rw [if_neg e] at this; omega
  refine ⟨fun x hx => ?_, fun x hx hxa => ?_, fun x hx hxa => ?_, fun j => ?_, fun j j1 j2 j3 => ?_, I.fw, fun j j1 j2 => ?_, fun j hj => ?_, I.sndv, I.leaf, I.br, fun x hx y hy => ?_, I.good, ?_⟩
  · rcases List.mem_append.1 hx with hx | hx
    · obtain ⟨i, hi, _, rfl⟩ := (hn x).1 hx
      exact ⟨k1, kN, hi⟩
    · exact I.pos x (List.mem_cons_of_mem _ hx)
  · rcases List.mem_append.1 hx with hx | hx
    · obtain ⟨i, hi, hp, rfl⟩ := (hn x).1 hx
      unfold pick at hp
      rw [decide_eq_true_iff] at hp
      exact ⟨rfl, hp.2, hp.1⟩
    · exact I.fst x (List.mem_cons_of_mem _ hx) hxa
  · rcases List.mem_append.1 hx with hx | hx
    · obtain ⟨i, hi, hp, rfl⟩ := (hn x).1 hx
      cases hxa
    · exact I.ag x (List.mem_cons_of_mem _ hx) hxa
  · have h1 := I.one j
    rw [cov_cons] at h1
    rw [cov_app]
    have := hlow j
    omega
  · have h1 := I.all j j1 j2 j3
    rw [cov_cons] at h1
    rw [cov_app]
    have h2 := hlow j
    by_cases e : covers h j u = true
    · rw [if_pos e] at h1 h2
      obtain ⟨e1, e2⟩ := (covers_iff j u ha).1 e
      obtain ⟨i, hi, i1, i2⟩ := h.find (n := h.ref u.n u.i) (by rw [k3]; exact e1) (by rw [k4]; exact e2)
      have hs : sm (h.ref u.n u.i) i ≤ vals j := by
        cases hlf : h.leaf (h.ref u.n u.i) with
        | true =>
          have e3 := (o.leafs _ i k1 kN hi hlf).2
          have e4 : h.s (h.ref u.n u.i) i = j := by omega
          rw [I.leaf _ i k1 kN hi hlf, e4, if_neg (by omega)]
          exact Int.le_refl _
        | false => exact (I.br _ i k1 kN hi hlf).1 j i1 i2
      have := news_cov1 h sm key bar (h.ref u.n u.i) j i _ hi (by unfold pick; rw [decide_eq_true_iff]; omega) i1 i2
      omega
    · rw [if_neg e] at h1 h2
      omega
  · have := I.again j j1 j2
    rw [agn_cons, agains_first j u ha] at this
    rw [agn_app, news_ag]
    simpa using this
  · have := I.noag j hj
    rw [agn_cons, agains_first j u ha] at this
    rw [agn_app, news_ag]
    simpa using this
  · rcases List.mem_append.1 hy with hy | hy
    · obtain ⟨i, hi, hp, rfl⟩ := (hn y).1 hy
      exact Int.le_trans (I.le x hx u (List.mem_cons_self ..)) (hkv i hi)
    · exact I.le x hx y (List.mem_cons_of_mem _ hy)
  · rw [lfs_app, news_lfs]
    have := I.bnd
    rw [lfs_cons, hl] at this
    simp at this
    omega
end
end Go.Proofs.Ybulkbuhe
