/-
  leastFirst in plain words: a visit; the beginning; the end.
-/
import Derived.Test.YbulkbuheB4
namespace Go.Proofs.Ybulkbuhe
open Go.RowKit Fl

section
variable {h : Shape} {key bar : Int} {vals ext : Nat → Int} {q q1 : List Un} {tr : List Vis} {sm : Nat → Nat → Int} {b : Nat} {u : Un}

/-- The entry that goes back, if any. -/
def backs (ext : Nat → Int) (h : Shape) (u : Un) : List Un := if 0 < ext (h.s u.n u.i) then [⟨u.v + ext (h.s u.n u.i), u.n, u.i, true⟩] else []

theorem Inv.first (I : Inv h key bar vals ext (u :: q1) tr sm b) (o : h.Ok) (he : ∀ j, 0 ≤ ext j) (ha : u.again = false) (hl : h.leaf u.n = true) (hmin : ∀ x ∈ q1, u.v ≤ x.v) :
    sm u.n u.i = u.v ∧ u.v = vals (h.s u.n u.i) ∧ Step h.len vals ext tr ⟨h.s u.n u.i, u.v, false⟩ ∧
    Inv h key bar vals ext (backs ext h u ++ q1) (tr ++ [⟨h.s u.n u.i, u.v, false⟩]) (up2 sm u.n u.i (if 0 < ext (h.s u.n u.i) then u.v + ext (h.s u.n u.i) else u.v)) b := by
  obtain ⟨p1, p2, p3⟩ := I.pos u (List.mem_cons_self ..)
  obtain ⟨f1, f2, f3⟩ := I.fst u (List.mem_cons_self ..) ha
  obtain ⟨_, l2⟩ := o.leafs u.n u.i p1 p2 p3 hl
  have hlen := o.hi u.n (u.i + 1) p1 p2 (by omega)
  generalize hj : h.s u.n u.i = j at *
  have hcj : ∀ x, covers h x u = true ↔ x = j := fun x => by rw [covers_iff x u ha, hj, l2]; omega
  have h1 := I.one j
  rw [cov_cons, if_pos ((hcj j).2 rfl)] at h1
  have hf0 : fstN tr j = 0 := by omega
  have hc0 : cov h q1 j = 0 := by omega
  have hv : u.v = vals j := by
    have := I.leaf u.n u.i p1 p2 p3 hl
    rw [hj, if_neg (by omega)] at this
    rw [f1, this]
  have hag : agn h q1 j + sndN tr j = 0 := by
    have := I.noag j (.inl hf0)
    rw [agn_cons, agains_first j u ha] at this
    simpa using this
  have hfs : ∀ x, fstN (tr ++ [⟨j, u.v, false⟩]) x = fstN tr x + if x = j then 1 else 0 := fun x => by
    rw [fstN_snoc]
    congr 1
    unfold fstB
    by_cases e : j = x
    · simp [e]
    · simp [e]; exact fun e' => e e'.symm
  have hsn : ∀ x, sndN (tr ++ [⟨j, u.v, false⟩]) x = sndN tr x := fun x => by rw [sndN_snoc]; simp [sndB]
  have hst : Step h.len vals ext tr ⟨j, u.v, false⟩ := ⟨by show j < h.len; omega, fun y hy => I.le y hy u (List.mem_cons_self ..), fun _ => ⟨hf0, hv⟩, fun e => by cases e⟩
  have hbc : ∀ x, cov h (backs ext h u) x = 0 := fun x => by
    unfold backs
    split
    · rw [cov_cons, covers_again _ _ rfl]; simp [cov]
    · simp [cov]
  have hba : ∀ x, agn h (backs ext h u) x = if 0 < ext j ∧ x = j then 1 else 0 := fun x => by
    unfold backs
    rw [hj]
    by_cases e : 0 < ext j
    · rw [if_pos e, agn_cons]
      by_cases e2 : x = j
      · rw [if_pos ((agains_iff _ _ rfl).2 (by show h.s u.n u.i = x; rw [hj, e2])), if_pos ⟨e, e2⟩]; simp [agn]
      · rw [if_neg (by rw [agains_iff _ _ rfl]; show ¬ h.s u.n u.i = x; rw [hj]; exact fun e3 => e2 e3.symm), if_neg (fun e3 => e2 e3.2)]; simp [agn]
    · rw [if_neg e, if_neg (fun e3 => e e3.1)]; simp [agn]
  have hbl : lfs h (backs ext h u) = 0 := by
    unfold backs
    split
    · rw [lfs_cons]; simp [lfs]
    · simp [lfs]
  have hbm : ∀ x ∈ backs ext h u, x = ⟨u.v + ext j, u.n, u.i, true⟩ := fun x hx => by
    unfold backs at hx
    rw [hj] at hx
    split at hx
    · exact List.mem_singleton.1 hx
    · cases hx
  have hej := he j
  refine ⟨f1.symm, hv, hst, fun x hx => ?_, fun x hx hxa => ?_, fun x hx hxa => ?_, fun x => ?_, fun x j1 j2 j3 => ?_, fun x hx => ?_, fun x j1 j2 => ?_, fun x hx => ?_, fun x hx => ?_, fun n i n1 n2 n3 n4 => ?_, fun n i n1 n2 n3 n4 => ?_, fun x hx y hy => ?_, I.good.snoc hst, ?_⟩
  · rcases List.mem_append.1 hx with hx | hx
    · rw [hbm x hx]; exact ⟨p1, p2, p3⟩
    · exact I.pos x (List.mem_cons_of_mem _ hx)
  · rcases List.mem_append.1 hx with hx | hx
    · rw [hbm x hx] at hxa; cases hxa
    · obtain ⟨g1, g2, g3⟩ := I.fst x (List.mem_cons_of_mem _ hx) hxa
      refine ⟨?_, g2, g3⟩
      unfold up2
      by_cases e : x.n = u.n ∧ x.i = u.i
      · exfalso
        have : 0 < cov h q1 j := by
          unfold cov
          refine List.countP_pos_iff.2 ⟨x, hx, (covers_iff j x hxa).2 ?_⟩
          rw [e.1, e.2, hj, l2]; omega
        omega
      · rw [if_neg e]; exact g1
  · rcases List.mem_append.1 hx with hx | hx
    · rw [hbm x hx]
      refine ⟨hl, ?_⟩
      show u.v + ext j = vals (h.s u.n u.i) + ext (h.s u.n u.i)
      rw [hj, hv]
    · exact I.ag x (List.mem_cons_of_mem _ hx) hxa
  · have := I.one x
    rw [cov_cons] at this
    rw [cov_app, hbc, hfs]
    by_cases e : x = j
    · subst e; rw [if_pos rfl]; omega
    · rw [if_neg e]; rw [if_neg (fun e2 => e ((hcj x).1 e2))] at this; omega
  · have := I.all x j1 j2 j3
    rw [cov_cons] at this
    rw [cov_app, hbc, hfs]
    by_cases e : x = j
    · subst e; rw [if_pos rfl]; omega
    · rw [if_neg e]; rw [if_neg (fun e2 => e ((hcj x).1 e2))] at this; omega
  · rw [hfs] at hx
    by_cases e : x = j
    · subst e; rw [← hv]; exact ⟨by omega, by omega, f2⟩
    · rw [if_neg e] at hx; exact I.fw x hx
  · rw [hfs] at j1
    rw [agn_app, hba, hsn]
    by_cases e : x = j
    · subst e; rw [if_pos ⟨j2, rfl⟩]; omega
    · rw [if_neg e] at j1
      rw [if_neg (fun e2 => e e2.2)]
      have := I.again x j1 j2
      rw [agn_cons, agains_first x u ha] at this
      simpa using this
  · rw [hfs] at hx
    rw [agn_app, hba, hsn]
    by_cases e : x = j
    · subst e; rw [if_pos rfl] at hx; rw [if_neg (by omega)]; omega
    · rw [if_neg e] at hx
      rw [if_neg (fun e2 => e e2.2)]
      have := I.noag x hx
      rw [agn_cons, agains_first x u ha] at this
      simpa using this
  · rw [hsn] at hx; exact I.sndv x hx
  · unfold up2
    by_cases e : n = u.n ∧ i = u.i
    · rw [if_pos e, e.1, e.2, hj, hfs, if_pos rfl, if_pos (show 0 < fstN tr j + 1 by omega)]
      by_cases e2 : 0 < ext j
      · rw [if_pos e2, hv]
      · rw [if_neg e2, hv]; omega
    · have hne : h.s n i ≠ j := by
        intro e2
        have a1 := o.leafpos n i n1 n2 n3 n4
        have a2 := o.leafpos u.n u.i p1 p2 p3 hl
        rw [e2] at a1
        rw [hj] at a2
        exact e ⟨a1.1.trans a2.1.symm, a1.2.trans a2.2.symm⟩
      rw [if_neg e, hfs, if_neg hne, Nat.add_zero]
      exact I.leaf n i n1 n2 n3 n4
  · unfold up2
    rw [if_neg (by rintro ⟨rfl, rfl⟩; rw [hl] at n4; cases n4)]
    exact I.br n i n1 n2 n3 n4
  · have key1 : ∀ y ∈ backs ext h u ++ q1, u.v ≤ y.v := fun y hy => by
      rcases List.mem_append.1 hy with hy | hy
      · rw [hbm y hy]; show u.v ≤ u.v + ext j; omega
      · exact hmin y hy
    rcases List.mem_append.1 hx with hx | hx
    · exact Int.le_trans (I.le x hx u (List.mem_cons_self ..)) (key1 y hy)
    · rw [List.mem_singleton.1 hx]; exact key1 y hy
  · rw [lfs_app, hbl, firsts_snoc]
    have := I.bnd
    rw [lfs_cons, hl, ha] at this
    simp at this ⊢
    omega

theorem Inv.second (I : Inv h key bar vals ext (u :: q1) tr sm b) (o : h.Ok) (ha : u.again = true) (hbar : u.v < bar) (hmin : ∀ x ∈ q1, u.v ≤ x.v) :
    h.leaf u.n = true ∧ sm u.n u.i = u.v ∧ Step h.len vals ext tr ⟨h.s u.n u.i, u.v, true⟩ ∧
    Inv h key bar vals ext q1 (tr ++ [⟨h.s u.n u.i, u.v, true⟩]) sm b := by
  obtain ⟨p1, p2, p3⟩ := I.pos u (List.mem_cons_self ..)
  obtain ⟨hl, hv⟩ := I.ag u (List.mem_cons_self ..) ha
  obtain ⟨_, l2⟩ := o.leafs u.n u.i p1 p2 p3 hl
  have hlen := o.hi u.n (u.i + 1) p1 p2 (by omega)
  generalize hj : h.s u.n u.i = j at *
  have haj : ∀ x, agains h x u = true ↔ x = j := fun x => by rw [agains_iff x u ha, hj]; exact eq_comm
  have hn1 : ¬ (fstN tr j = 0 ∨ ext j ≤ 0) := fun e => by
    have := I.noag j e
    rw [agn_cons, if_pos ((haj j).2 rfl)] at this
    omega
  have hf : 0 < fstN tr j := by omega
  have hx0 : 0 < ext j := by omega
  have hag := I.again j hf hx0
  rw [agn_cons, if_pos ((haj j).2 rfl)] at hag
  have h1 := I.one j
  have hfs : ∀ x, fstN (tr ++ [⟨j, u.v, true⟩]) x = fstN tr x := fun x => by rw [fstN_snoc]; simp [fstB]
  have hsn : ∀ x, sndN (tr ++ [⟨j, u.v, true⟩]) x = sndN tr x + if x = j then 1 else 0 := fun x => by
    rw [sndN_snoc]
    congr 1
    unfold sndB
    by_cases e : j = x
    · simp [e]
    · simp [e]; exact fun e' => e e'.symm
  have hst : Step h.len vals ext tr ⟨j, u.v, true⟩ := ⟨by show j < h.len; omega, fun y hy => I.le y hy u (List.mem_cons_self ..), fun e => (by cases e), fun _ => ⟨by show fstN tr j = 1; omega, by show sndN tr j = 0; omega, hv, hx0⟩⟩
  have hc : ∀ x, cov h (u :: q1) x = cov h q1 x := fun x => by rw [cov_cons, covers_again x u ha]; simp
  have hsm : sm u.n u.i = u.v := by
    have := I.leaf u.n u.i p1 p2 p3 hl
    rw [hj, if_pos hf] at this
    rw [this, hv]
  refine ⟨hl, hsm, hst, fun x hx => I.pos x (List.mem_cons_of_mem _ hx), fun x hx => I.fst x (List.mem_cons_of_mem _ hx), fun x hx => I.ag x (List.mem_cons_of_mem _ hx), fun x => ?_, fun x j1 j2 j3 => ?_, fun x hx => ?_, fun x j1 j2 => ?_, fun x hx => ?_, fun x hx => ?_, fun n i n1 n2 n3 n4 => ?_, I.br, fun x hx y hy => ?_, I.good.snoc hst, ?_⟩
  · have := I.one x
    rw [hc] at this
    rw [hfs]; exact this
  · have := I.all x j1 j2 j3
    rw [hc] at this
    rw [hfs]; exact this
  · rw [hfs] at hx; exact I.fw x hx
  · rw [hfs] at j1
    rw [hsn]
    have := I.again x j1 j2
    rw [agn_cons] at this
    by_cases e : x = j
    · subst e; rw [if_pos rfl]; omega
    · rw [if_neg e]; rw [if_neg (fun e2 => e ((haj x).1 e2))] at this; exact this
  · rw [hfs] at hx
    rw [hsn]
    have := I.noag x hx
    rw [agn_cons] at this
    by_cases e : x = j
    · subst e; exact absurd hx hn1
    · rw [if_neg e]; rw [if_neg (fun e2 => e ((haj x).1 e2))] at this; exact this
  · rw [hsn] at hx
    by_cases e : x = j
    · subst e; rw [← hv]; exact hbar
    · rw [if_neg e] at hx; exact I.sndv x hx
  · rw [hfs]; exact I.leaf n i n1 n2 n3 n4
  · rcases List.mem_append.1 hx with hx | hx
    · exact Int.le_trans (I.le x hx u (List.mem_cons_self ..)) (hmin y hy)
    · rw [List.mem_singleton.1 hx]; exact hmin y hy
  · rw [firsts_snoc]
    have := I.bnd
    rw [lfs_cons, ha] at this
    simp at this ⊢
    exact this

theorem Inv.start (o : h.Ok) (hleaf : ∀ n i, 1 ≤ n → n < h.N → i < h.cnt n → h.leaf n = true → sm n i = vals (h.s n i)) (hbr : ∀ n i, 1 ≤ n → n < h.N → i < h.cnt n → h.leaf n = false → IsMin vals (h.s n i) (h.s n (i + 1)) (sm n i)) :
    Inv h key bar vals ext (newsTo h sm key bar h.root (h.cnt h.root)) [] sm (if h.leaf h.root = true then (newsTo h sm key bar h.root (h.cnt h.root)).length else 0) := by
  have k1 := o.root1
  have kN : h.root < h.N := by have := o.rootN; omega
  have hn := mem_newsTo h sm key bar h.root (h.cnt h.root)
  have hcv := fun j => news_cov h sm key bar h.root o k1 kN j _ (Nat.le_refl _)
  refine ⟨fun x hx => ?_, fun x hx hxa => ?_, fun x hx hxa => ?_, fun j => ?_, fun j j1 j2 j3 => ?_, fun j hj => (by simp [fstN] at hj), fun j hj => (by simp [fstN] at hj), fun j hj => ?_, fun j hj => (by simp [sndN] at hj), fun n i n1 n2 n3 n4 => ?_, hbr, fun x hx => (by cases hx), Good.nil _ _ _, ?_⟩
  · obtain ⟨i, hi, _, rfl⟩ := (hn x).1 hx
    exact ⟨k1, kN, hi⟩
  · obtain ⟨i, hi, hp, rfl⟩ := (hn x).1 hx
    unfold pick at hp
    rw [decide_eq_true_iff] at hp
    exact ⟨rfl, hp.2, hp.1⟩
  · obtain ⟨i, hi, hp, rfl⟩ := (hn x).1 hx
    cases hxa
  · have := hcv j
    have h0 : fstN [] j = 0 := rfl
    rw [h0]
    split at this <;> omega
  · have h0 : fstN [] j = 0 := rfl
    rw [h0]
    have h1 := hcv j
    obtain ⟨i, hi, i1, i2⟩ := h.find (n := h.root) (j := j) (by rw [o.root0]; exact Nat.zero_le _) (by rw [o.rootlen]; exact j2)
    have hs : sm h.root i ≤ vals j := by
      cases hlf : h.leaf h.root with
      | true =>
        have e3 := (o.leafs _ i k1 kN hi hlf).2
        have e4 : h.s h.root i = j := by omega
        rw [hleaf _ i k1 kN hi hlf, e4]
        exact Int.le_refl _
      | false => exact (hbr _ i k1 kN hi hlf).1 j i1 i2
    have := news_cov1 h sm key bar h.root j i _ hi (by unfold pick; rw [decide_eq_true_iff]; omega) i1 i2
    split at h1 <;> omega
  · rw [news_ag]; rfl
  · rw [if_neg (by simp [fstN])]; exact hleaf n i n1 n2 n3 n4
  · rw [news_lfs]; simp [firsts]

/-- At the end: the wanted items were handed on once each; those raised and still below the bar once more. -/
theorem Inv.finish (I : Inv h key bar vals ext q tr sm b) (hq : ∀ u ∈ q, bar ≤ u.v) :
    (∀ j : Nat, fstN tr j = if key < j ∧ j < h.len ∧ vals j < bar then 1 else 0) ∧ (∀ j : Nat, sndN tr j = if key < j ∧ j < h.len ∧ vals j < bar ∧ 0 < ext j ∧ vals j + ext j < bar then 1 else 0) ∧ b = firsts tr := by
  have hno : ∀ u ∈ q, u.again = true := fun u hu => by
    cases e : u.again with
    | true => rfl
    | false => have := (I.fst u hu e).2.1; have := hq u hu; omega
  have hc : ∀ j, cov h q j = 0 := fun j => by
    unfold cov
    rw [List.countP_eq_zero]
    intro u hu
    rw [covers_again j u (hno u hu)]; simp
  have hl : lfs h q = 0 := by
    unfold lfs
    rw [List.countP_eq_zero]
    intro u hu
    simp [hno u hu]
  have hf : ∀ j : Nat, fstN tr j = if key < j ∧ j < h.len ∧ vals j < bar then 1 else 0 := fun j => by
    by_cases e : key < j ∧ j < h.len ∧ vals j < bar
    · rw [if_pos e]
      have := I.all j e.1 e.2.1 e.2.2
      rw [hc] at this
      omega
    · rw [if_neg e]
      rcases Nat.eq_zero_or_pos (fstN tr j) with e2 | e2
      · exact e2
      · exact absurd (I.fw j e2) e
  refine ⟨hf, fun j => ?_, by have := I.bnd; rw [hl] at this; omega⟩
  by_cases e : key < j ∧ j < h.len ∧ vals j < bar ∧ 0 < ext j ∧ vals j + ext j < bar
  · rw [if_pos e]
    have h1 := I.again j (by rw [hf, if_pos ⟨e.1, e.2.1, e.2.2.1⟩]; exact Nat.one_pos) e.2.2.2.1
    have : agn h q j = 0 := by
      unfold agn
      rw [List.countP_eq_zero]
      intro u hu e2
      have e3 := (agains_iff j u (hno u hu)).1 e2
      have e4 := (I.ag u hu (hno u hu)).2
      rw [e3] at e4
      have := hq u hu
      omega
    omega
  · rw [if_neg e]
    rcases Nat.eq_zero_or_pos (sndN tr j) with e2 | e2
    · exact e2
    · exfalso
      have e3 := I.sndv j e2
      have e4 : ¬ (fstN tr j = 0 ∨ ext j ≤ 0) := fun e5 => by have := I.noag j e5; omega
      have e5 := I.fw j (by omega)
      exact e ⟨e5.1, e5.2.1, e5.2.2, by omega, e3⟩
end
end Go.Proofs.Ybulkbuhe
