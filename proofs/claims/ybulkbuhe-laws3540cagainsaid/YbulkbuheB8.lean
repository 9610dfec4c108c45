/-
  The walk of leastFirst.
-/
import Derived.Test.YbulkbuheB7
import Derived.OwnWalk
import Derived.Deep.QuietTactic
import Derived.BigQuiet
namespace Go.Proofs.Ybulkbuhe
open Go.RowKit Fl
attribute [local go_sem] run_store_float setCell_drewN alloc_drewN
attribute [-go_sem] World.setCell_alloc_at World.setCell_alloc_past

/-- What leastFirst leaves. -/
def LFPost {base : Nat} (C : Client base) (h : Shape) (key : Int) (vals : Nat → Int) (tb cb nb cap : Nat) (F : Nat → Prop) (w : World) (e : Ending) (w' : World) : Prop :=
  ∃ sm' sn' tr F', e = .returned (.tuple #[]) ∧ (∃ M, Tr w' base tb cb nb h.N cap M ∧ Mem h M sm' sn') ∧ C.E ⟨firsts tr, tr⟩ F' w' ∧ Good h.len vals C.ext tr ∧
    (∀ j : Nat, fstN tr j = if key < j ∧ j < h.len ∧ vals j < C.bar then 1 else 0) ∧
    (∀ j : Nat, sndN tr j = if key < j ∧ j < h.len ∧ vals j < C.bar ∧ 0 < C.ext j ∧ vals j + C.ext j < C.bar then 1 else 0) ∧
    (∀ n i, 1 ≤ n → n < h.N → i < h.cnt n → h.leaf n = true → sm' n i = curOf vals C.ext tr (h.s n i)) ∧
    IsMin (curOf vals C.ext tr) 0 h.len (sn' h.root) ∧ Chg (fun k => k = nb ∨ k = tb ∨ F k) w w' ∧ (∀ k, F' k → F k ∨ w.heap.size ≤ k)

theorem start_loop {base : Nat} {C : Client base} {h : Shape} {key : Int} {vals : Nat → Int} {tb cb nb cap : Nat} {sm : Nat → Nat → Int} {sn : Nat → Int} {F : Nat → Prop} {w w1 w2 : World} (o : h.Ok)
    (hleaf : ∀ n i, 1 ≤ n → n < h.N → i < h.cnt n → h.leaf n = true → sm n i = vals (h.s n i)) (hbr : ∀ n i, 1 ≤ n → n < h.N → i < h.cnt n → h.leaf n = false → IsMin vals (h.s n i) (h.s n (i + 1)) (sm n i))
    {qv : Value} (hQ : QAst C h tb cb nb cap sm sn key h.root (.slice none 0 0) [] 0 [] F w (h.cnt h.root) qv w1)
    {ge cape : Nat} (her : w2.ownsRow base 69 3 (.slice (some ⟨ge, 0, none⟩) 1 cape) 1 (erow [⟨h.root, 0, 0⟩])) (hc : Chg (fun _ => False) w1 w2) (hge : w1.heap.size ≤ ge) :
    ∃ q F', Loop C h key vals tb cb nb cap sn F w q [⟨h.root, 0, 0⟩] [] sm (if h.leaf h.root = true then (newsTo h sm key C.bar h.root (h.cnt h.root)).length else 0) F' qv (.slice (some ⟨ge, 0, none⟩) 1 cape) w2 := by
  obtain ⟨q, F', ys, hp, hch, hb, hf⟩ := hQ
  rw [List.append_nil] at hp
  rw [Nat.zero_add] at ys
  have k1 := o.root1
  have kN : h.root < h.N := by have := o.rootN; omega
  have y2 := ys.idle hc (fun k e => e.elim)
  obtain ⟨M, hT, _⟩ := ys.mem
  have l1 := hT.ltt
  have l2 := hT.ltc
  have l3 := hT.ltn
  refine ⟨q, F', y2, (Inv.start o hleaf hbr).perm hp.symm, (Ents.start o).perm hp.symm, her, fun k e => ?_, fun k e => ?_, hf, (hch.mono (fun k _ e => ?_)).trans hc (fun _ _ e => e.elim), ?_⟩
  · obtain rfl : ge = k := Option.some.inj e
    refine ⟨by omega, by omega, by omega, fun e' => ?_, fun e' => ?_, Nat.le_trans hch.size hge⟩
    · have := C.lt _ _ _ _ ys.e e'; omega
    · have := (ys.qr.lt _ e').2; omega
  · rcases hb k e with e' | e'
    · cases e'
    · exact e'
  · rcases e with e | e | e
    · exact .inl e
    · cases e
    · exact .inr e
  · have h1 := wts_perm h hp
    have h2 := news_wts h sm key C.bar h.root o k1 kN _ (Nat.le_refl _)
    have h3 := o.rootlen
    have h4 := o.lens
    have h5 := o.root0
    have h6 := o.hts h.root
    rw [h1, List.length_singleton]
    have : (h.ht h.root + 2) * (h.s h.root (h.cnt h.root) - h.s h.root 0) ≤ 10 * 1024 := Nat.mul_le_mul (by omega) (by omega)
    omega

theorem lf_none {base : Nat} {C : Client base} {h : Shape} {key : Int} {vals : Nat → Int} {tb cb nb cap : Nat} {sm : Nat → Nat → Int} {sn : Nat → Int} {F : Nat → Prop} {w : World} (y : Sys C h w tb cb nb cap sm sn (.slice none 0 0) [] ⟨0, []⟩ F)
    (hleaf : ∀ n i, 1 ≤ n → n < h.N → i < h.cnt n → h.leaf n = true → sm n i = vals (h.s n i)) (hroot : IsMin vals 0 h.len (sn h.root)) (hbar : C.bar ≤ sn h.root) : LFPost C h key vals tb cb nb cap F w (.returned (.tuple #[])) w := by
  have hno : ∀ j : Nat, ¬ (j < h.len ∧ vals j < C.bar) := fun j hj => by
    have := hroot.1 j (Nat.zero_le _) hj.1
    omega
  have hc : ∀ j, curOf vals C.ext [] j = vals j := fun j => by unfold curOf; rw [if_neg (by simp [fstN])]
  refine ⟨sm, sn, [], F, rfl, y.mem, y.e, Good.nil _ _ _, fun j => ?_, fun j => ?_, fun n i n1 n2 n3 n4 => by rw [hc]; exact hleaf n i n1 n2 n3 n4, hroot.congr (fun j _ _ => (hc j).symm), Chg.refl _ _, fun k e => .inl e⟩
  · rw [if_neg (fun e => hno j ⟨e.2.1, e.2.2⟩)]; rfl
  · rw [if_neg (fun e => hno j ⟨e.2.1, e.2.2.1⟩)]; rfl


/-- The least measure. -/
theorem least_of (P : Nat → Prop) (h : ∃ n, P n) : ∃ n, P n ∧ ∀ m, P m → n ≤ m := by
  obtain ⟨n, hn⟩ := h
  induction n using Nat.strongRecOn with
  | ind n ih =>
    by_cases e : ∃ m, m < n ∧ P m
    · obtain ⟨m, h1, h2⟩ := e
      exact ih m h1 h2
    · exact ⟨n, hn, fun m hm => by
        rcases Nat.lt_or_ge m n with h1 | h1
        · exact absurd ⟨m, h1, hm⟩ e
        · exact h1⟩
open Classical in
noncomputable def lst (P : Nat → Prop) : Nat := if h : ∃ n, P n then Classical.choose (least_of P h) else 0
theorem lst_spec {P : Nat → Prop} (h : ∃ n, P n) : P (lst P) := by
  unfold lst
  rw [dif_pos h]
  exact (Classical.choose_spec (least_of P h)).1
theorem lst_le {P : Nat → Prop} {m : Nat} (h : P m) : lst P ≤ m := by
  unfold lst
  rw [dif_pos ⟨m, h⟩]
  exact (Classical.choose_spec (least_of P ⟨m, h⟩)).2 m h

/-- The state, its weight n. -/
def LoopN {base : Nat} (C : Client base) (h : Shape) (key : Int) (vals : Nat → Int) (tb cb nb cap : Nat) (sn : Nat → Int) (F0 : Nat → Prop) (w : World) (qv ev : Value) (wr : World) (n : Nat) : Prop :=
  ∃ q ent tr sm b F, Loop C h key vals tb cb nb cap sn F0 w q ent tr sm b F qv ev wr ∧ wts h q = n

/-- Behind takeLeast: u taken off, q1 left; u's cells in the block be. -/
structure Popd {base : Nat} (C : Client base) (h : Shape) (key : Int) (vals : Nat → Int) (tb cb nb cap : Nat) (sn : Nat → Int) (F0 : Nat → Prop) (w : World) (u : Un) (q1 : List Un) (ent : List Stp) (tr : List Vis) (sm : Nat → Nat → Int) (b : Nat) (F : Nat → Prop) (qv ev : Value) (be : Nat) (W : World) : Prop where
  sys : Sys C h W tb cb nb cap sm sn qv q1 ⟨b, tr⟩ F
  inv : Inv h key C.bar vals C.ext (u :: q1) tr sm b
  ents : Ents h (u :: q1) tr ent
  er : W.ownsRow base 69 3 ev ent.length (erow ent)
  esep : ∀ k, ev.ownBlock = some k → k ≠ tb ∧ k ≠ cb ∧ k ≠ nb ∧ ¬ F k ∧ qv.ownBlock ≠ some k ∧ w.heap.size ≤ k
  qnew : ∀ k, qv.ownBlock = some k → w.heap.size ≤ k
  fnew : ∀ k, F k → F0 k ∨ w.heap.size ≤ k
  chg : Chg (fun k => k = nb ∨ F0 k) w W
  wgt : wts h (u :: q1) + ent.length ≤ 20000
  least : ∀ x ∈ q1, u.v ≤ x.v
  box : Box W be u
  bt : be ≠ tb
  bc : be ≠ cb
  bn : be ≠ nb
  bq : qv.ownBlock ≠ some be
  bf : ¬ F be
  bev : ev.ownBlock ≠ some be

section
variable {base : Nat} {C : Client base} {h : Shape} {key : Int} {vals : Nat → Int} {tb cb nb cap : Nat} {sn : Nat → Int} {F0 : Nat → Prop} {w : World} {q q1 : List Un} {ent : List Stp} {tr : List Vis} {sm : Nat → Nat → Int} {b : Nat} {F : Nat → Prop} {qv ev : Value} {wr w' : World} {u : Un} {be : Nat}

theorem Loop.pop {g c n : Nat} (L : Loop C h key vals tb cb nb cap sn F0 w q ent tr sm b F (.slice (some ⟨g, 0, none⟩) q.length c) ev wr) {e : Ending} {w3 : World} (hT : TakePost base g c q ((wr.drewN n).alloc zo) e w3) :
    ∃ q1, e = .returned (.tuple #[ua (qa q 0), .slice (some ⟨g, 0, none⟩) q1.length c]) ∧ List.Perm q (qa q 0 :: q1) ∧
      Popd C h key vals tb cb nb cap sn F0 w (qa q 0) q1 ent tr sm b F (.slice (some ⟨g, 0, none⟩) q1.length c) ev wr.heap.size (put4 w3 wr.heap.size (qa q 0)) := by
  obtain ⟨q1, he, hQR, hheap, hperm, hch⟩ := hT
  have L1 := L.idle ((Chg.drewN (fun _ => False) wr n).trans (Chg.alloc _ _ zo) (fun _ _ h => h))
  have hsz : ((wr.drewN n).alloc zo).heap.size = wr.heap.size + 1 := by simp
  have hqlt := (L.sys.qr.lt g rfl).2
  obtain ⟨M, hTr, _⟩ := L.sys.mem
  have l1 := hTr.ltt
  have l2 := hTr.ltc
  have l3 := hTr.ltn
  have y1 : Sys C h w3 tb cb nb cap sm sn (.slice (some ⟨g, 0, none⟩) q1.length c) q1 ⟨b, tr⟩ F :=
    L1.sys.queue hQR hheap (fun x hx => L.sys.qsm x (hperm.mem_iff.1 (List.mem_cons_of_mem _ hx))) (hch.mono (fun k _ e => by cases e; rfl)) (fun k e => .inl e)
  have hnew : ∀ k, k = wr.heap.size → base ≤ k ∧ k ≠ tb ∧ k ≠ cb ∧ k ≠ nb ∧ (Value.slice (some ⟨g, 0, none⟩) q1.length c).ownBlock ≠ some k ∧ ¬ F k := fun k e => by
    subst e
    refine ⟨L.sys.low, by omega, by omega, by omega, fun e => ?_, fun e => ?_⟩
    · have : g = wr.heap.size := Option.some.inj e
      omega
    · have := C.lt _ _ _ _ L.sys.e e; omega
  have hev : ev.ownBlock ≠ some wr.heap.size := fun e => by have := (L.er.lt _ e).2; omega
  have hp4 := put4_chg w3 wr.heap.size (qa q 0)
  have hcell : ∀ k, k < 4 → ∃ v, w3.cell? ⟨wr.heap.size, k, none⟩ = some v := fun k hk => by
    rw [hch.cell (p := ⟨wr.heap.size, k, none⟩) (by rw [hsz]; show wr.heap.size < _; omega) (by show wr.heap.size ≠ g; omega)]
    have : ((wr.drewN n).alloc zo).cell? ⟨wr.heap.size, k, none⟩ = (#[Value.float .f64 0, .int .i32 0, .int .i32 0, .bool false] : Array Value)[k]? := World.cell?_alloc_new (wr.drewN n) _ _ _
    rw [this]
    match k, hk with
    | 0, _ => exact ⟨_, rfl⟩
    | 1, _ => exact ⟨_, rfl⟩
    | 2, _ => exact ⟨_, rfl⟩
    | 3, _ => exact ⟨_, rfl⟩
  have hwle : w.heap.size ≤ wr.heap.size := L.chg.size
  have hqw := L.qnew g rfl
  refine ⟨q1, he, hperm.symm, y1.idle hp4 hnew, L.inv.perm hperm.symm, L.ents.perm hperm.symm, hp4.row (hch.row L1.er (fun k e e' => ?_)) (fun k e e' => ?_), fun k e => ?_, fun k e => L.qnew k e, L.fnew, (L1.chg.trans hch (fun k hk e => ?_)).trans hp4 (fun k hk e => ?_), ?_, fun x hx => ?_, put4_box w3 wr.heap.size (qa q 0) hcell, by omega, by omega, by omega, (hnew _ rfl).2.2.2.2.1, (hnew _ rfl).2.2.2.2.2, hev⟩
  · subst e'; exact (L.esep k e).2.2.2.2.1 rfl
  · subst e'; exact hev e
  · obtain ⟨a1, a2, a3, a4, a5, a6⟩ := L.esep k e
    exact ⟨a1, a2, a3, a4, a5, a6⟩
  · omega
  · omega
  · rw [← wts_perm h hperm.symm]; exact L.wgt
  · exact L.sys.heap.top x (hperm.mem_iff.1 (List.mem_cons_of_mem _ hx))
end
end Go.Proofs.Ybulkbuhe
