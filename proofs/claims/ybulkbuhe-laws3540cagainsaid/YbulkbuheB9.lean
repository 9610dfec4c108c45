/-
  leastFirst's rounds, as steps from state to state.
-/
import Derived.Test.YbulkbuheB8
namespace Go.Proofs.Ybulkbuhe
open Go.RowKit Fl

/-- What lies beside: the row of the nodes stepped into; what has turned since the beginning. -/
structure Frm (base tb cb nb : Nat) (F0 : Nat → Prop) (w : World) (ent : List Stp) (F : Nat → Prop) (qv ev : Value) (W : World) : Prop where
  er : W.ownsRow base 69 3 ev ent.length (erow ent)
  esep : ∀ k, ev.ownBlock = some k → k ≠ tb ∧ k ≠ cb ∧ k ≠ nb ∧ ¬ F k ∧ qv.ownBlock ≠ some k ∧ w.heap.size ≤ k
  qnew : ∀ k, qv.ownBlock = some k → w.heap.size ≤ k
  fnew : ∀ k, F k → F0 k ∨ w.heap.size ≤ k
  chg : Chg (fun k => k = nb ∨ F0 k) w W

section
variable {base : Nat} {C : Client base} {h : Shape} {key : Int} {vals : Nat → Int} {tb cb nb cap : Nat} {sn : Nat → Int} {F0 : Nat → Prop} {w : World} {q q1 : List Un} {ent : List Stp} {tr : List Vis} {sm : Nat → Nat → Int} {b : Nat} {F : Nat → Prop} {qv ev : Value} {W W2 : World} {u : Un} {be : Nat}

theorem Popd.frm (P : Popd C h key vals tb cb nb cap sn F0 w u q1 ent tr sm b F qv ev be W) : Frm base tb cb nb F0 w ent F qv ev W := ⟨P.er, P.esep, P.qnew, P.fnew, P.chg⟩
theorem Loop.of (y : Sys C h W tb cb nb cap sm sn qv q ⟨b, tr⟩ F) (I : Inv h key C.bar vals C.ext q tr sm b) (E : Ents h q tr ent) (f : Frm base tb cb nb F0 w ent F qv ev W) (hw : wts h q + ent.length ≤ 20000) : Loop C h key vals tb cb nb cap sn F0 w q ent tr sm b F qv ev W :=
  ⟨y, I, E, f.er, f.esep, f.qnew, f.fnew, f.chg, hw⟩
theorem Frm.idle (f : Frm base tb cb nb F0 w ent F qv ev W) (hc : Chg (fun _ => False) W W2) : Frm base tb cb nb F0 w ent F qv ev W2 :=
  ⟨hc.row f.er (fun _ _ => id), f.esep, f.qnew, f.fnew, f.chg.trans hc (fun _ _ e => e.elim)⟩
theorem Frm.nodes (f : Frm base tb cb nb F0 w ent F qv ev W) (hc : Chg (fun k => k = nb) W W2) : Frm base tb cb nb F0 w ent F qv ev W2 :=
  ⟨hc.row f.er (fun k e => (f.esep k e).2.2.1), f.esep, f.qnew, f.fnew, f.chg.trans hc (fun _ _ e => .inl e)⟩
theorem Frm.client (f : Frm base tb cb nb F0 w ent F qv ev W) {F2 : Nat → Prop} (hc : Chg F W W2) (hF : ∀ k, F2 k → F k ∨ W.heap.size ≤ k) : Frm base tb cb nb F0 w ent F2 qv ev W2 := by
  refine ⟨hc.row f.er (fun k e => (f.esep k e).2.2.2.1), fun k e => ?_, f.qnew, fun k e => ?_, f.chg.trans hc (fun k hk e => ?_)⟩
  · obtain ⟨a1, a2, a3, a4, a5, a6⟩ := f.esep k e
    refine ⟨a1, a2, a3, fun e' => ?_, a5, a6⟩
    rcases hF k e' with e' | e'
    · exact a4 e'
    · have := (f.er.lt k e).2; omega
  · rcases hF k e with e' | e'
    · exact f.fnew k e'
    · exact .inr (Nat.le_trans f.chg.size e')
  · rcases f.fnew k e with e' | e'
    · exact .inr e'
    · omega
theorem Frm.queue (f : Frm base tb cb nb F0 w ent F qv ev W) {qv2 : Value} (hc : Chg (fun k => qv.ownBlock = some k) W W2) (hb : ∀ k, qv2.ownBlock = some k → qv.ownBlock = some k ∨ W.heap.size ≤ k) : Frm base tb cb nb F0 w ent F qv2 ev W2 := by
  refine ⟨hc.row f.er (fun k e => (f.esep k e).2.2.2.2.1), fun k e => ?_, fun k e => ?_, f.fnew, f.chg.trans hc (fun k hk e => ?_)⟩
  · obtain ⟨a1, a2, a3, a4, a5, a6⟩ := f.esep k e
    refine ⟨a1, a2, a3, a4, fun e' => ?_, a6⟩
    rcases hb k e' with e' | e'
    · exact a5 e'
    · have := (f.er.lt k e).2; omega
  · rcases hb k e with e' | e'
    · exact f.qnew k e'
    · exact Nat.le_trans f.chg.size e'
  · have := f.qnew k e; omega

/-- Behind a visit and the store of what it gave. -/
theorem Popd.visited (P : Popd C h key vals tb cb nb cap sn F0 w u q1 ent tr sm b F qv ev be W) (o : h.Ok) {x : Vis} {F2 : Nat → Prop} {w4 : World} (hE : C.E ⟨b, tr ++ [x]⟩ F2 w4) (hc : Chg F W w4) (hF : ∀ k, F2 k → F k ∨ W.heap.size ≤ k) (ns : Int) :
    Sys C h (w4.setCell ⟨nb, u.n * 36 + 11 + u.i, none⟩ (.float .f64 (fl ns))) tb cb nb cap (up2 sm u.n u.i ns) sn qv q1 ⟨b, tr ++ [x]⟩ F2 ∧ Frm base tb cb nb F0 w ent F2 qv ev (w4.setCell ⟨nb, u.n * 36 + 11 + u.i, none⟩ (.float .f64 (fl ns))) := by
  obtain ⟨p1, p2, p3⟩ := P.inv.pos u (List.mem_cons_self ..)
  have h8 := o.cnt8 u.n p1 p2
  have y := P.sys.client hE hc hF
  obtain ⟨M, hT, hM⟩ := y.mem
  have hk : Chg (fun k => k = nb) w4 (w4.setCell ⟨nb, u.n * 36 + 11 + u.i, none⟩ (.float .f64 (fl ns))) := Chg.setCell w4 _ _ rfl
  refine ⟨y.nodes (M := upd M u.n (11 + u.i) (.float .f64 (fl ns))) ?_ (hM.setSum o u.n u.i p1 p2 p3 ns) hk, (P.frm.client hc hF).nodes hk⟩
  have := hT.set (n := u.n) (o := 11 + u.i) (by omega) (.float .f64 (fl ns))
  rwa [← Nat.add_assoc] at this

/-- A first visit; the item does not go back. -/
theorem Popd.first (P : Popd C h key vals tb cb nb cap sn F0 w u q1 ent tr sm b F qv ev be W) (o : h.Ok) (he : ∀ j, 0 ≤ C.ext j) (ha : u.again = false) (hl : h.leaf u.n = true) (hx : ¬ 0 < C.ext (h.s u.n u.i)) {F2 : Nat → Prop} {w4 : World} (hE : C.E ⟨b, tr ++ [⟨h.s u.n u.i, u.v, false⟩]⟩ F2 w4) (hc : Chg F W w4) (hF : ∀ k, F2 k → F k ∨ W.heap.size ≤ k) :
    ∃ n, n < wts h (u :: q1) ∧ LoopN C h key vals tb cb nb cap sn F0 w qv ev (w4.setCell ⟨nb, u.n * 36 + 11 + u.i, none⟩ (.float .f64 (fl u.v))) n := by
  obtain ⟨p1, p2, p3⟩ := P.inv.pos u (List.mem_cons_self ..)
  obtain ⟨_, _, _, I⟩ := P.inv.first o he ha hl P.least
  have E := P.ents.first (ext := C.ext) ha hl (o.leafs u.n u.i p1 p2 p3 hl).2
  obtain ⟨y, f⟩ := P.visited o hE hc hF u.v
  have hb : backs C.ext h u = [] := by unfold backs; rw [if_neg hx]
  rw [hb, List.nil_append, if_neg hx] at I
  rw [hb, List.nil_append] at E
  have hlt := o.lt u.n u.i p1 p2 p3
  have hw : 1 ≤ wt h u := by
    unfold wt
    rw [ha, if_neg (by simp)]
    exact Nat.mul_pos (by omega) (by omega)
  have hwg := P.wgt
  simp only [wts] at hwg ⊢
  exact ⟨wts h q1, by omega, q1, ent, _, _, b, F2, Loop.of y I E f (by omega), rfl⟩
/-- A second visit. -/
theorem Popd.second (P : Popd C h key vals tb cb nb cap sn F0 w u q1 ent tr sm b F qv ev be W) (o : h.Ok) (ha : u.again = true) (hbar : u.v < C.bar) {F2 : Nat → Prop} {w4 : World} (hE : C.E ⟨b, tr ++ [⟨h.s u.n u.i, u.v, true⟩]⟩ F2 w4) (hc : Chg F W w4) (hF : ∀ k, F2 k → F k ∨ W.heap.size ≤ k) :
    ∃ n, n < wts h (u :: q1) ∧ LoopN C h key vals tb cb nb cap sn F0 w qv ev (w4.setCell ⟨nb, u.n * 36 + 11 + u.i, none⟩ (.float .f64 (fl u.v))) n := by
  obtain ⟨hl, hsm, _, I⟩ := P.inv.second o ha hbar P.least
  have E := P.ents.second (h.s u.n u.i) u.v
  obtain ⟨y, f⟩ := P.visited o hE hc hF u.v
  have e := up2_same sm u.n u.i
  rw [hsm] at e
  rw [e] at y
  have hw : wt h u = 1 := by unfold wt; rw [ha, if_pos rfl]
  have hwg := P.wgt
  simp only [wts] at hwg ⊢
  exact ⟨wts h q1, by omega, q1, ent, _, _, b, F2, Loop.of y I E f (by omega), rfl⟩
/-- A first visit; the item goes back at a higher value. -/
theorem Popd.back (P : Popd C h key vals tb cb nb cap sn F0 w u q1 ent tr sm b F qv ev be W) (o : h.Ok) (he : ∀ j, 0 ≤ C.ext j) (ha : u.again = false) (hl : h.leaf u.n = true) (hx : 0 < C.ext (h.s u.n u.i)) {F2 : Nat → Prop} {w4 : World} (hE : C.E ⟨b, tr ++ [⟨h.s u.n u.i, u.v, false⟩]⟩ F2 w4) (hc : Chg F W w4) (hF : ∀ k, F2 k → F k ∨ W.heap.size ≤ k)
    (hsm : Small (u.v + C.ext (h.s u.n u.i))) {qv2 : Value} {w5 : World} (hQ : QueuePost base qv q1 ⟨u.v + C.ext (h.s u.n u.i), u.n, u.i, true⟩ (w4.setCell ⟨nb, u.n * 36 + 11 + u.i, none⟩ (.float .f64 (fl (u.v + C.ext (h.s u.n u.i))))) (.returned qv2) w5) :
    ∃ n, n < wts h (u :: q1) ∧ LoopN C h key vals tb cb nb cap sn F0 w qv2 ev w5 n := by
  obtain ⟨p1, p2, p3⟩ := P.inv.pos u (List.mem_cons_self ..)
  obtain ⟨_, _, _, I⟩ := P.inv.first o he ha hl P.least
  have E := P.ents.first (ext := C.ext) ha hl (o.leafs u.n u.i p1 p2 p3 hl).2
  obtain ⟨y, f⟩ := P.visited o hE hc hF (u.v + C.ext (h.s u.n u.i))
  have hb : backs C.ext h u = [⟨u.v + C.ext (h.s u.n u.i), u.n, u.i, true⟩] := by unfold backs; rw [if_pos hx]
  rw [hb, if_pos hx] at I
  rw [hb] at E
  obtain ⟨g, cap', q2, hr, hQR, hheap, hperm, hch, hl2⟩ := hQ
  cases hr
  have hb2 : ∀ k, (Value.slice (some ⟨g, 0, none⟩) q2.length cap').ownBlock = some k → qv.ownBlock = some k ∨ (w4.setCell ⟨nb, u.n * 36 + 11 + u.i, none⟩ (.float .f64 (fl (u.v + C.ext (h.s u.n u.i))))).heap.size ≤ k := fun k e => by cases e; exact hl2
  have hlt := o.lt u.n u.i p1 p2 p3
  have hw : 2 ≤ wt h u := by
    unfold wt
    rw [ha, if_neg (by simp)]
    exact Nat.le_trans (show 2 ≤ (h.ht u.n + 2) * 1 by omega) (Nat.mul_le_mul (Nat.le_refl _) (by omega))
  have hwg := P.wgt
  have hwp := wts_perm h hperm
  have hw1 : wt h ⟨u.v + C.ext (h.s u.n u.i), u.n, u.i, true⟩ = 1 := by unfold wt; rw [if_pos rfl]
  simp only [wts] at hwg hwp ⊢
  refine ⟨wts h q2, by omega, q2, ent, _, _, b, F2, Loop.of (y.queue hQR hheap (fun x hx => ?_) hch hb2) (I.perm hperm.symm) (E.perm hperm.symm) (f.queue hch hb2) (by omega), rfl⟩
  rcases List.mem_cons.1 (hperm.mem_iff.1 hx) with e | e
  · rw [e]; exact hsm
  · exact P.sys.qsm x e

/-- Behind queueAfter of the child. -/
theorem Popd.after (P : Popd C h key vals tb cb nb cap sn F0 w u q1 ent tr sm b F qv ev be W) {m : Nat} {qv2 : Value} {w5 : World} (hQ : QAst C h tb cb nb cap sm sn key m qv q1 b tr F W (h.cnt m) qv2 w5) :
    ∃ q2 F2, Sys C h w5 tb cb nb cap sm sn qv2 q2 ⟨b + (if h.leaf m = true then (newsTo h sm key C.bar m (h.cnt m)).length else 0), tr⟩ F2 ∧ List.Perm q2 (newsTo h sm key C.bar m (h.cnt m) ++ q1) ∧ Frm base tb cb nb F0 w ent F2 qv2 ev w5 ∧ Box w5 be u := by
  obtain ⟨q2, F2, y, hp, hch, hb, hf⟩ := hQ
  refine ⟨q2, F2, y, hp, ⟨hch.row P.er (fun k e => ?_), fun k e => ?_, fun k e => ?_, fun k e => ?_, P.chg.trans hch (fun k hk e => ?_)⟩, P.box.chg hch ?_⟩
  · obtain ⟨a1, a2, a3, a4, a5, a6⟩ := P.esep k e
    rintro (e' | e' | e')
    · exact a3 e'
    · exact a5 e'
    · exact a4 e'
  · obtain ⟨a1, a2, a3, a4, a5, a6⟩ := P.esep k e
    have hlt := (P.er.lt k e).2
    refine ⟨a1, a2, a3, fun e' => ?_, fun e' => ?_, a6⟩
    · rcases hf k e' with e' | e'
      · exact a4 e'
      · omega
    · rcases hb k e' with e' | e'
      · exact a5 e'
      · omega
  · rcases hb k e with e' | e'
    · exact P.qnew k e'
    · exact Nat.le_trans P.chg.size e'
  · rcases hf k e with e' | e'
    · exact P.fnew k e'
    · exact .inr (Nat.le_trans P.chg.size e')
  · rcases e with e | e | e
    · exact .inl e
    · have := P.qnew k e; omega
    · rcases P.fnew k e with e' | e'
      · exact .inr e'
      · omega
  · rintro (e | e | e)
    · exact P.bn e
    · exact P.bq e
    · exact P.bf e
/-- .. and the node is laid among those stepped into. -/
theorem Popd.stepped (P : Popd C h key vals tb cb nb cap sn F0 w u q1 ent tr sm b F qv ev be W) (o : h.Ok) (ha : u.again = false) (hl : h.leaf u.n = false) {qv2 : Value} {q2 : List Un} {F2 : Nat → Prop} {w5 w6 : World}
    (y : Sys C h w5 tb cb nb cap sm sn qv2 q2 ⟨b + (if h.leaf (h.ref u.n u.i) = true then (newsTo h sm key C.bar (h.ref u.n u.i) (h.cnt (h.ref u.n u.i))).length else 0), tr⟩ F2) (hp : List.Perm q2 (newsTo h sm key C.bar (h.ref u.n u.i) (h.cnt (h.ref u.n u.i)) ++ q1)) (f : Frm base tb cb nb F0 w ent F2 qv2 ev w5)
    {ge cape : Nat} (her : w6.ownsRow base 69 3 (.slice (some ⟨ge, 0, none⟩) (ent.length + 1) cape) (ent.length + 1) (erow ent ++ [ec ⟨h.ref u.n u.i, u.n, u.i⟩ 0, ec ⟨h.ref u.n u.i, u.n, u.i⟩ 1, ec ⟨h.ref u.n u.i, u.n, u.i⟩ 2])) (hc : Chg (fun k => ev.ownBlock = some k) w5 w6) (hge : ev.ownBlock = some ge ∨ w5.heap.size ≤ ge) :
    ∃ n, n < wts h (u :: q1) ∧ LoopN C h key vals tb cb nb cap sn F0 w qv2 (.slice (some ⟨ge, 0, none⟩) (ent.length + 1) cape) w6 n := by
  obtain ⟨p1, p2, p3⟩ := P.inv.pos u (List.mem_cons_self ..)
  obtain ⟨k1, k2, k3, k4, k5⟩ := o.kids u.n u.i p1 p2 p3 hl
  have kN : h.ref u.n u.i < h.N := by omega
  have I := (P.inv.branch o ha hl).perm hp.symm
  have E := (P.ents.branch P.inv o ha hl).perm hp.symm
  have hsep := f.esep
  have y6 : Sys C h w6 tb cb nb cap sm sn qv2 q2 ⟨b + (if h.leaf (h.ref u.n u.i) = true then (newsTo h sm key C.bar (h.ref u.n u.i) (h.cnt (h.ref u.n u.i))).length else 0), tr⟩ F2 := y.idle hc (fun k e => by
    obtain ⟨a1, a2, a3, a4, a5, a6⟩ := hsep k e
    exact ⟨(f.er.lt k e).1, a1, a2, a3, a5, a4⟩)
  obtain ⟨M, hT, _⟩ := y.mem
  have l1 := hT.ltt
  have l2 := hT.ltc
  have l3 := hT.ltn
  have hgs : ∀ k, k = ge → k ≠ tb ∧ k ≠ cb ∧ k ≠ nb ∧ ¬ F2 k ∧ qv2.ownBlock ≠ some k ∧ w.heap.size ≤ k := fun k e => by
    subst e
    rcases hge with e | e
    · exact hsep _ e
    · refine ⟨by omega, by omega, by omega, fun e' => ?_, fun e' => ?_, Nat.le_trans f.chg.size e⟩
      · have := C.lt _ _ _ _ y.e e'; omega
      · have := (y.qr.lt _ e').2; omega
  have f6 : Frm base tb cb nb F0 w (ent ++ [⟨h.ref u.n u.i, u.n, u.i⟩]) F2 qv2 (.slice (some ⟨ge, 0, none⟩) (ent.length + 1) cape) w6 := by
    refine ⟨?_, fun k e => hgs k (Option.some.inj e).symm, f.qnew, f.fnew, f.chg.trans hc (fun k hk e => ?_)⟩
    · rw [← erow_append, List.length_append, List.length_singleton]; exact her
    · have := (hsep k e).2.2.2.2.2; omega
  have hwn := news_wts h sm key C.bar (h.ref u.n u.i) o k1 kN _ (Nat.le_refl _)
  rw [k3, k4] at hwn
  have hlt := o.lt u.n u.i p1 p2 p3
  have hwu : wt h u = (h.ht (h.ref u.n u.i) + 2) * (h.s u.n (u.i + 1) - h.s u.n u.i) + (h.s u.n (u.i + 1) - h.s u.n u.i) := by
    unfold wt
    rw [ha, if_neg (by simp), k5, show h.ht (h.ref u.n u.i) + 1 + 2 = (h.ht (h.ref u.n u.i) + 2) + 1 by omega, Nat.add_mul, Nat.one_mul]
  have hwp := wts_perm h hp
  rw [wts_append] at hwp
  have hwg := P.wgt
  simp only [wts] at hwg ⊢
  exact ⟨wts h q2, by omega, q2, _, tr, sm, _, F2, Loop.of y6 I E f6 (by rw [List.length_append, List.length_singleton]; omega), rfl⟩
end
end Go.Proofs.Ybulkbuhe
