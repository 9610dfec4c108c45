/-
  The walk of queueAfter.
-/
import Derived.Test.YbulkbuheB1
import Derived.Deep.RegionHeld3
namespace Go.Proofs.Ybulkbuhe
open Go.RowKit Fl
attribute [local go_sem] run_store_float setCell_drewN alloc_drewN
attribute [-go_sem] World.setCell_alloc_at World.setCell_alloc_past

/-- All that leastFirst works on. -/
structure Sys {base : Nat} (C : Client base) (h : Shape) (w : World) (tb cb nb cap : Nat) (sm : Nat → Nat → Int) (sn : Nat → Int) (qv : Value) (q : List Un) (g : Gh) (F : Nat → Prop) : Prop where
  mem : ∃ M, Tr w base tb cb nb h.N cap M ∧ Mem h M sm sn
  qr : w.ownsRow base 71 4 qv q.length (qrow q)
  e : C.E g F w
  heap : Heap q
  qsm : ∀ x ∈ q, Small x.v
  qsep : ∀ k, qv.ownBlock = some k → k ≠ tb ∧ k ≠ cb ∧ k ≠ nb ∧ ¬ F k
  ft : ¬ F tb
  fc : ¬ F cb
  fn : ¬ F nb
  low : base ≤ w.heap.size

section
variable {base : Nat} {C : Client base} {h : Shape} {w : World} {tb cb nb cap : Nat} {sm : Nat → Nat → Int} {sn : Nat → Int} {qv : Value} {q : List Un} {g : Gh} {F : Nat → Prop}

/-- The client's call: its own blocks alone have turned. -/
theorem Sys.client (y : Sys C h w tb cb nb cap sm sn qv q g F) {w' : World} {g' : Gh} {F' : Nat → Prop} (hE : C.E g' F' w') (hc : Chg F w w') (hF : ∀ k, F' k → F k ∨ w.heap.size ≤ k) : Sys C h w' tb cb nb cap sm sn qv q g' F' := by
  obtain ⟨M, hT, hM⟩ := y.mem
  have n1 : ∀ k, k < w.heap.size → ¬ F k → ¬ F' k := fun k hk hn e => by
    rcases hF k e with e | e
    · exact hn e
    · omega
  refine ⟨⟨M, hT.chg hc y.ft y.fc y.fn, hM⟩, hc.row y.qr (fun k e => (y.qsep k e).2.2.2), hE, y.heap, y.qsm, fun k e => ⟨(y.qsep k e).1, (y.qsep k e).2.1, (y.qsep k e).2.2.1, n1 k (y.qr.lt k e).2 (y.qsep k e).2.2.2⟩, n1 tb hT.ltt y.ft, n1 cb hT.ltc y.fc, n1 nb hT.ltn y.fn, Nat.le_trans y.low hc.size⟩
/-- The world goes on, nothing of the system's turned. -/
theorem Sys.idle (y : Sys C h w tb cb nb cap sm sn qv q g F) {w' : World} {S : Nat → Prop} (hc : Chg S w w') (hS : ∀ k, S k → base ≤ k ∧ k ≠ tb ∧ k ≠ cb ∧ k ≠ nb ∧ qv.ownBlock ≠ some k ∧ ¬ F k) : Sys C h w' tb cb nb cap sm sn qv q g F := by
  obtain ⟨M, hT, hM⟩ := y.mem
  exact ⟨⟨M, hT.chg hc (fun e => (hS tb e).2.1 rfl) (fun e => (hS cb e).2.2.1 rfl) (fun e => (hS nb e).2.2.2.1 rfl), hM⟩, hc.row y.qr (fun k e e' => (hS k e').2.2.2.2.1 e), C.keep _ _ _ _ _ y.e hc (fun k e => ⟨(hS k e).1, (hS k e).2.2.2.2.2⟩), y.heap, y.qsm, y.qsep, y.ft, y.fc, y.fn, Nat.le_trans y.low hc.size⟩
/-- The nodes' own block alone has turned. -/
theorem Sys.nodes (y : Sys C h w tb cb nb cap sm sn qv q g F) {w' : World} {M : Nat → Nat → Value} {sm' : Nat → Nat → Int} {sn' : Nat → Int} (hT : Tr w' base tb cb nb h.N cap M) (hM : Mem h M sm' sn') (hc : Chg (fun k => k = nb) w w') : Sys C h w' tb cb nb cap sm' sn' qv q g F := by
  obtain ⟨M0, hT0, hM0⟩ := y.mem
  exact ⟨⟨M, hT, hM⟩, hc.row y.qr (fun k e => (y.qsep k e).2.2.1), C.keep _ _ _ _ _ y.e hc (fun k e => by cases e; exact ⟨hT0.bnb, y.fn⟩), y.heap, y.qsm, y.qsep, y.ft, y.fc, y.fn, Nat.le_trans y.low hc.size⟩
/-- The queue is another. -/
theorem Sys.queue (y : Sys C h w tb cb nb cap sm sn qv q g F) {w' : World} {qv' : Value} {q' : List Un} (hq : w'.ownsRow base 71 4 qv' q'.length (qrow q')) (hh : Heap q') (hs : ∀ x ∈ q', Small x.v) (hc : Chg (fun k => qv.ownBlock = some k) w w') (hb : ∀ k, qv'.ownBlock = some k → qv.ownBlock = some k ∨ w.heap.size ≤ k) : Sys C h w' tb cb nb cap sm sn qv' q' g F := by
  obtain ⟨M, hT, hM⟩ := y.mem
  refine ⟨⟨M, hT.chg hc (fun e => (y.qsep _ e).1 rfl) (fun e => (y.qsep _ e).2.1 rfl) (fun e => (y.qsep _ e).2.2.1 rfl), hM⟩, hq, C.keep _ _ _ _ _ y.e hc (fun k e => ⟨(y.qr.lt k e).1, (y.qsep k e).2.2.2⟩), hh, hs, fun k e => ?_, y.ft, y.fc, y.fn, Nat.le_trans y.low hc.size⟩
  rcases hb k e with e | e
  · exact y.qsep k e
  · have h1 := hT.ltt
    have h2 := hT.ltc
    have h3 := hT.ltn
    exact ⟨by omega, by omega, by omega, fun e' => by have := C.lt _ _ _ _ y.e e'; omega⟩
end

/-- Is the node's entry to be put in the queue? -/
def pick (h : Shape) (sm : Nat → Nat → Int) (key bar : Int) (n i : Nat) : Bool := decide (key < (h.s n (i + 1) : Int) - 1 ∧ sm n i < bar)
def newsTo (h : Shape) (sm : Nat → Nat → Int) (key bar : Int) (n c : Nat) : List Un := ((List.range c).filter (pick h sm key bar n)).map fun i => ⟨sm n i, n, i, false⟩
theorem newsTo_skip (h : Shape) (sm : Nat → Nat → Int) (key bar : Int) (n c : Nat) (hp : pick h sm key bar n c = false) : newsTo h sm key bar n (c + 1) = newsTo h sm key bar n c := by
  unfold newsTo
  rw [List.range_succ, List.filter_append, List.map_append, List.filter_cons_of_neg (by simp [hp]), List.filter_nil, List.map_nil, List.append_nil]
theorem newsTo_push (h : Shape) (sm : Nat → Nat → Int) (key bar : Int) (n c : Nat) (hp : pick h sm key bar n c = true) : newsTo h sm key bar n (c + 1) = newsTo h sm key bar n c ++ [⟨sm n c, n, c, false⟩] := by
  unfold newsTo
  rw [List.range_succ, List.filter_append, List.map_append, List.filter_cons_of_pos hp, List.filter_nil]; rfl

/-- How far queueAfter has come. -/
def QAst {base : Nat} (C : Client base) (h : Shape) (tb cb nb cap : Nat) (sm : Nat → Nat → Int) (sn : Nat → Int) (key : Int) (n : Nat) (qv : Value) (q : List Un) (b : Nat) (tr : List Vis) (F : Nat → Prop) (w : World) (i : Nat) (qv' : Value) (w' : World) : Prop :=
  ∃ q' F', Sys C h w' tb cb nb cap sm sn qv' q' ⟨b + (if h.leaf n = true then (newsTo h sm key C.bar n i).length else 0), tr⟩ F' ∧ List.Perm q' (newsTo h sm key C.bar n i ++ q) ∧
    Chg (fun k => k = nb ∨ qv.ownBlock = some k ∨ F k) w w' ∧ (∀ k, qv'.ownBlock = some k → qv.ownBlock = some k ∨ w.heap.size ≤ k) ∧ (∀ k, F' k → F k ∨ w.heap.size ≤ k)
def QAPost {base : Nat} (C : Client base) (h : Shape) (tb cb nb cap : Nat) (sm : Nat → Nat → Int) (sn : Nat → Int) (key : Int) (n : Nat) (qv : Value) (q : List Un) (b : Nat) (tr : List Vis) (F : Nat → Prop) (w : World) (e : Ending) (w' : World) : Prop :=
  ∃ qv', e = .returned qv' ∧ QAst C h tb cb nb cap sm sn key n qv q b tr F w (h.cnt n) qv' w'

section
variable {base : Nat} {C : Client base} {h : Shape} {tb cb nb cap : Nat} {sm : Nat → Nat → Int} {sn : Nat → Int} {key : Int} {n : Nat} {qv : Value} {q : List Un} {b : Nat} {tr : List Vis} {F : Nat → Prop} {w w' : World} {i : Nat} {qv' : Value}

theorem QAst.start (y : Sys C h w tb cb nb cap sm sn qv q ⟨b, tr⟩ F) (i : Nat) (hi : newsTo h sm key C.bar n i = []) : QAst C h tb cb nb cap sm sn key n qv q b tr F w i qv w := by
  refine ⟨q, F, ?_, by rw [hi]; exact List.Perm.refl _, Chg.refl _ _, fun k e => .inl e, fun k e => .inl e⟩
  rw [hi]; simpa using y
theorem QAst.skip (s : QAst C h tb cb nb cap sm sn key n qv q b tr F w i qv' w') (hp : pick h sm key C.bar n i = false) : QAst C h tb cb nb cap sm sn key n qv q b tr F w (i + 1) qv' w' := by
  unfold QAst
  rw [newsTo_skip _ _ _ _ _ _ hp]; exact s

/-- The same between two rounds: b' calls of bound so far. -/
def Mid {base : Nat} (C : Client base) (h : Shape) (tb cb nb cap : Nat) (sm : Nat → Nat → Int) (sn : Nat → Int) (key : Int) (n : Nat) (qv : Value) (q : List Un) (b' : Nat) (tr : List Vis) (F : Nat → Prop) (w : World) (i : Nat) (qv' : Value) (q' : List Un) (F' : Nat → Prop) (w' : World) : Prop :=
  Sys C h w' tb cb nb cap sm sn qv' q' ⟨b', tr⟩ F' ∧ List.Perm q' (newsTo h sm key C.bar n i ++ q) ∧
    Chg (fun k => k = nb ∨ qv.ownBlock = some k ∨ F k) w w' ∧ (∀ k, qv'.ownBlock = some k → qv.ownBlock = some k ∨ w.heap.size ≤ k) ∧ (∀ k, F' k → F k ∨ w.heap.size ≤ k)
theorem QAst.mid (s : QAst C h tb cb nb cap sm sn key n qv q b tr F w i qv' w') : ∃ q' F', Mid C h tb cb nb cap sm sn key n qv q (b + (if h.leaf n = true then (newsTo h sm key C.bar n i).length else 0)) tr F w i qv' q' F' w' := s
section
variable {q' : List Un} {F' : Nat → Prop} {w2 : World}
theorem Mid.client (m : Mid C h tb cb nb cap sm sn key n qv q b tr F w i qv' q' F' w') {b2 : Nat} {F2 : Nat → Prop} (hE : C.E ⟨b2, tr⟩ F2 w2) (hc : Chg F' w' w2) (hF : ∀ k, F2 k → F' k ∨ w'.heap.size ≤ k) : Mid C h tb cb nb cap sm sn key n qv q b2 tr F w i qv' q' F2 w2 := by
  obtain ⟨y, hp, hch, hb, hf⟩ := m
  refine ⟨y.client hE hc hF, hp, hch.trans hc (fun k hk e => ?_), hb, fun k e => ?_⟩
  · rcases hf k e with e | e
    · exact .inr (.inr e)
    · omega
  · rcases hF k e with e | e
    · exact hf k e
    · exact .inr (Nat.le_trans hch.size e)
theorem Mid.nodes (m : Mid C h tb cb nb cap sm sn key n qv q b tr F w i qv' q' F' w') {M : Nat → Nat → Value} (hT : Tr w2 base tb cb nb h.N cap M) (hM : Mem h M sm sn) (hc : Chg (fun k => k = nb) w' w2) : Mid C h tb cb nb cap sm sn key n qv q b tr F w i qv' q' F' w2 := by
  obtain ⟨y, hp, hch, hb, hf⟩ := m
  exact ⟨y.nodes hT hM hc, hp, hch.trans hc (fun k hk e => .inl e), hb, hf⟩
theorem Mid.idle (m : Mid C h tb cb nb cap sm sn key n qv q b tr F w i qv' q' F' w') (hc : Chg (fun _ => False) w' w2) : Mid C h tb cb nb cap sm sn key n qv q b tr F w i qv' q' F' w2 := by
  obtain ⟨y, hp, hch, hb, hf⟩ := m
  exact ⟨y.idle hc (fun k e => e.elim), hp, hch.trans hc (fun k hk e => e.elim), hb, hf⟩
theorem Mid.pushed {b0 : Nat} {qv2 : Value} (m : Mid C h tb cb nb cap sm sn key n qv q b tr F w i qv' q' F' w') (hp : pick h sm key C.bar n i = true) (hb : b = b0 + (if h.leaf n = true then (newsTo h sm key C.bar n (i + 1)).length else 0)) (hs : Small (sm n i)) (hQ : QueuePost base qv' q' ⟨sm n i, n, i, false⟩ w' (.returned qv2) w2) : QAst C h tb cb nb cap sm sn key n qv q b0 tr F w (i + 1) qv2 w2 := by
  obtain ⟨y, hperm, hch, hbk, hf⟩ := m
  obtain ⟨g, cap', q2, he, hQR, hheap, hperm2, hch2, hl⟩ := hQ
  cases he
  have hb2 : ∀ k, (Value.slice (some ⟨g, 0, none⟩) q2.length cap').ownBlock = some k → qv'.ownBlock = some k ∨ w'.heap.size ≤ k := fun k e => by
    cases e; exact hl
  refine ⟨q2, F', ?_, ?_, hch.trans hch2 (fun k hk e => ?_), fun k e => ?_, hf⟩
  · rw [← hb]
    refine y.queue hQR hheap (fun x hx => ?_) hch2 hb2
    rcases List.mem_cons.1 (hperm2.mem_iff.1 hx) with e | e
    · rw [e]; exact hs
    · exact y.qsm x e
  · rw [newsTo_push _ _ _ _ _ _ hp]
    refine hperm2.trans ((List.Perm.cons _ hperm).trans ?_)
    rw [List.append_assoc]
    exact List.perm_middle.symm
  · rcases hbk k e with e | e
    · exact .inr (.inl e)
    · omega
  · rcases hb2 k e with e | e
    · exact hbk k e
    · exact .inr (Nat.le_trans hch.size e)
end
end

/-- What the walk of one node reads. -/
structure Reads (w : World) (nb n i : Nat) (h : Shape) (sm : Nat → Nat → Int) : Prop where
  count : w.cell? ⟨nb, n * 36, none⟩ = some (.int .i32 (h.cnt n))
  leaf : w.cell? ⟨nb, n * 36 + 1, none⟩ = some (.bool (h.leaf n))
  owed : w.cell? ⟨nb, n * 36 + 2, none⟩ = some (.int .u8 0)
  sum : i < h.cnt n → w.cell? ⟨nb, n * 36 + 11 + i, none⟩ = some (.float .f64 (fl (sm n i)))
  ref : i < h.cnt n → w.cell? ⟨nb, n * 36 + 19 + i, none⟩ = some (.int .i32 (h.ref n i))
theorem reads_of {w : World} {base tb cb nb cap : Nat} {h : Shape} {M : Nat → Nat → Value} {sm : Nat → Nat → Int} {sn : Nat → Int} (hT : Tr w base tb cb nb h.N cap M) (hM : Mem h M sm sn) (o : h.Ok) (n i : Nat) (h1 : 1 ≤ n) (h2 : n < h.N) : Reads w nb n i h sm := by
  have h8 := o.cnt8 n h1 h2
  refine ⟨?_, ?_, ?_, fun hi => ?_, fun hi => ?_⟩
  · have := hT.at h2 (show 0 < 36 by decide)
    rwa [hM.count n h1 h2, Nat.add_zero] at this
  · have := hT.at h2 (show 1 < 36 by decide)
    rwa [hM.leaf n h1 h2] at this
  · have := hT.at h2 (show 2 < 36 by decide)
    rwa [hM.owed n h1 h2] at this
  · have := hT.at h2 (show 11 + i < 36 by omega)
    rwa [hM.sums n i h1 h2 hi, ← Nat.add_assoc] at this
  · have := hT.at h2 (show 19 + i < 36 by omega)
    rwa [hM.refs n i h1 h2 hi, ← Nat.add_assoc] at this

set_option maxHeartbeats 4000000 in
set_option maxRecDepth 100000 in
theorem queueAfter_walk {base : Nat} (C : Client base) (h : Shape) (o : h.Ok) (w : World) (tb cb nb cap : Nat) (sm : Nat → Nat → Int) (sn : Nat → Int) (key : Int) (n : Nat) (qv : Value) (q : List Un) (b : Nat) (tr : List Vis) (F : Nat → Prop)
    (y : Sys C h w tb cb nb cap sm sn qv q ⟨b, tr⟩ F) (h1 : 1 ≤ n) (h2 : n < h.N) (hs : ∀ i, i < h.cnt n → Small (sm n i)) (hl : q.length + 8 < 100000) (hb : b + 8 < 100000) :
    Calls Yba.prog 21 #[.pointer (some ⟨tb, 0, none⟩), qv, .int .i32 n, .int .i32 key, .func (.func C.fv) #[] #[], .func (.func C.fb) #[] C.cb, .func (.func C.fn) #[] C.cn, .iface 45 (.agg #[])] w (QAPost C h tb cb nb cap sm sn key n qv q b tr F w) := by
  have h8 := o.cnt8 n h1 h2
  have start : ∀ r, IsAfter (fun i => (h.s n (i + 1) : Int) - 1) key (h.cnt n) r → newsTo h sm key C.bar n r = [] := fun r hr => by
    unfold newsTo
    rw [List.filter_eq_nil_iff.2]; rfl
    intro a ha
    have : (h.s n (a + 1) : Int) - 1 ≤ key := hr.2.1 a (List.mem_range.1 ha)
    unfold pick
    rw [decide_eq_true_iff]; omega
  have later : ∀ r i, IsAfter (fun i => (h.s n (i + 1) : Int) - 1) key (h.cnt n) r → r ≤ i → i < h.cnt n → key < (h.s n (i + 1) : Int) - 1 := fun r i hr hri hi => by
    have h1' : key < (h.s n (r + 1) : Int) - 1 := hr.2.2 (by omega)
    have := o.le h1 h2 (show r + 1 ≤ i + 1 by omega) (by omega)
    omega
  have evs := C.entv
  have ebs := C.entb
  have ens := C.entn
  have HY : Hid (Sys C h w tb cb nb cap sm sn qv q ⟨b, tr⟩ F) := y
  have HSt : Hid _ := start
  have HLa : Hid _ := later
  have HS : Hid (∀ i, i < h.cnt n → Small (sm n i)) := hs
  clear start later hs
  obtain ⟨M0, hT0, hM0⟩ := y.mem
  clear y
  have rd := reads_of hT0 hM0 o n 0 h1 h2
  have c0 := rd.count
  have hkc : ∀ i, i < h.cnt n → w.cell? ⟨nb, n * 36 + 3 + i, none⟩ = some (.int .i32 ((h.s n (i + 1) : Int) - 1)) := fun i hi => by
    have := hT0.at h2 (show 3 + i < 36 by omega)
    rwa [hM0.keys n i h1 h2 hi, ← Nat.add_assoc] at this
  have HA := after_walk w nb n (h.cnt n) key (fun i => (h.s n (i + 1) : Int) - 1) c0 h8 hkc
  have HNd := node_walk w base tb cb nb h.N cap n M0 hT0 h2
  clear rd c0 hkc hT0 hM0
  go_enter Yba.func21, Yba.ntmps21
  go_wp2_with (first | (go_at_call 16; refine HNd.mono ?_; rintro e w' ⟨rfl, hw'⟩; have hw' := hw'.symm; subst hw') | (go_at_call 29; refine HA.mono ?_; rintro e w' ⟨r, hr, rfl, hw'⟩; have hw' := hw'.symm; subst hw'))
  clear HA HNd
  go_loopw [1, 18] (fun qv' iv wr => ∃ i : Nat, r ≤ i ∧ i ≤ h.cnt n ∧ iv = .int .i64 i ∧ QAst C h tb cb nb cap sm sn key n qv q b tr F w i qv' wr) (fun _ iv _ => h.cnt n - (intOf iv).toNat)
  case atStart => exact ⟨r, Nat.le_refl _, hr.1, rfl, QAst.start HY.out r (HSt.out r hr)⟩
  case round =>
    obtain ⟨i, hri, hi, rfl, hst⟩ := hrel
    obtain ⟨q', F', hm⟩ := hst.mid
    obtain ⟨M, hT, hM⟩ := hm.1.mem
    have rd := reads_of hT hM o n i h1 h2
    have c0 := rd.count
    have c1 := rd.leaf
    have hi0 : (0 : Int) ≤ (i : Int) := by omega
    by_cases hlt : i < h.cnt n
    · have hi8 : (i : Int) < 8 := by omega
      have hltd : decide ((i : Int) < (h.cnt n : Int)) = true := by rw [decide_eq_true_iff]; omega
      have s0 := rd.sum hlt
      have HSm : Hid (Small (sm n i)) := HS.out i hlt
      have hge := fl_geq (sm n i) C.bar HSm.out C.small
      have HK : Hid (key < (h.s n (i + 1) : Int) - 1) := HLa.out r i hr hri hlt
      have HB := C.barred _ _ _ hm.1.e
      by_cases hbar : C.bar ≤ sm n i
      · have d : decide (C.bar ≤ sm n i) = true := by rw [decide_eq_true_iff]; exact hbar
        go_wp2_with fail
        refine (C.value _ _).mono ?_
        rintro e w' ⟨rfl, hw'⟩
        have hw' := hw'.symm
        subst hw'
        go_wp2_with fail
        refine HB.mono ?_
        rintro e w' ⟨rfl, hw'⟩
        have hw' := hw'.symm
        subst hw'
        go_wp2_with fail
        go_roundw
        case rel => exact ⟨i + 1, by omega, by omega, by go_num, hst.skip (by unfold pick; rw [decide_eq_false_iff_not]; omega)⟩
        case measure => simp [intOf]; omega
      · have d : decide (C.bar ≤ sm n i) = false := by rw [decide_eq_false_iff_not]; exact hbar
        have HPk : Hid (pick h sm key C.bar n i = true) := by show pick h sm key C.bar n i = true; unfold pick; rw [decide_eq_true_iff]; have := HK.out; omega
        have hlen : q'.length + 1 < 100000 := by
          rw [hm.2.1.length_eq, List.length_append]
          have : (newsTo h sm key C.bar n i).length ≤ i := by
            unfold newsTo
            rw [List.length_map]
            exact Nat.le_trans (List.length_filter_le _ _) (by simp)
          omega
        cases hlf : h.leaf n with
        | false =>
          rw [hlf] at c1
          have HQ := fun x => queueUp_walk w x
          have HQ := queueUp_walk wr base u1 q' ⟨sm n i, n, i, false⟩ hm.1.qr hm.1.heap (by omega) hm.1.qsm HSm.out hm.1.low
          unfold ua at HQ
          have hwi : IntKind.i32.wrap (i : Int) = (i : Int) := by rw [IntKind.wrap_i32]; omega
          have HM : Hid (Mid C h tb cb nb cap sm sn key n qv q (b + (if h.leaf n = true then (newsTo h sm key C.bar n i).length else 0)) tr F w i u1 q' F' wr) := hm
          clear hm hT hM rd hst
          go_wp2_with fail
          refine (C.value _ _).mono ?_
          rintro e w' ⟨rfl, hw'⟩
          have hw' := hw'.symm
          subst hw'
          go_wp2_with fail
          refine HB.mono ?_
          rintro e w' ⟨rfl, hw'⟩
          have hw' := hw'.symm
          subst hw'
          clear HB
          go_wp2_with fail
          refine HQ.mono ?_
          intro e w2 hQ
          obtain ⟨qv2, he⟩ : ∃ qv2, e = .returned qv2 := by obtain ⟨_, _, _, he, _⟩ := hQ; exact ⟨_, he⟩
          subst he
          have HQ2 : Hid _ := hQ
          clear hQ HQ
          go_wp2_with fail
          go_roundw
          case rel => exact ⟨i + 1, by omega, by omega, by go_num, Mid.pushed HM.out HPk.out (by simp [hlf]) HSm.out HQ2.out⟩
          case measure => simp [intOf]; omega
        | true =>
          rw [hlf] at c1
          have c2 := rd.owed
          have c19 := rd.ref hlt
          have HRe := reach_walk wr nb n i (.iface 45 (.agg #[])) c2 hi0 hi8
          have hmd := hm.idle (Chg.drew _ wr)
          have HBd := C.bound _ _ _ _ (h.ref n i) (sm n i) hmd.1.e HSm.out (by
            rw [if_pos hlf]
            have : (newsTo h sm key C.bar n i).length ≤ i := by
              unfold newsTo
              rw [List.length_map]
              exact Nat.le_trans (List.length_filter_le _ _) (by simp)
            omega)
          have k19 : ∀ w', Tr w' base tb cb nb h.N cap M → w'.cell? ⟨nb, n * 36 + 19 + i, none⟩ = some (.int .i32 (h.ref n i)) := fun w' hT => (reads_of hT hM o n i h1 h2).ref hlt
          have k11 : ∀ w', Tr w' base tb cb nb h.N cap M → w'.cell? ⟨nb, n * 36 + 11 + i, none⟩ = some (.float .f64 (fl (sm n i))) := fun w' hT => (reads_of hT hM o n i h1 h2).sum hlt
          have HM : Hid (Mid C h tb cb nb cap sm sn key n qv q (b + (newsTo h sm key C.bar n i).length) tr F w i u1 q' F' wr.drew) := by
            have := hmd
            rw [if_pos hlf] at this
            exact this
          have HF1 : Hid (¬ F' tb ∧ ¬ F' cb ∧ ¬ F' nb) := ⟨hm.1.ft, hm.1.fc, hm.1.fn⟩
          have HT : Hid (Tr wr.drew base tb cb nb h.N cap M) := hT.drew
          have HMm : Hid (Mem h M sm sn) := hM
          have Hk19 : Hid (∀ w', Tr w' base tb cb nb h.N cap M → w'.cell? ⟨nb, n * 36 + 19 + i, none⟩ = some (.int .i32 (h.ref n i))) := k19
          have Hk11 : Hid (∀ w', Tr w' base tb cb nb h.N cap M → w'.cell? ⟨nb, n * 36 + 11 + i, none⟩ = some (.float .f64 (fl (sm n i)))) := k11
          rw [if_pos hlf] at HBd
          clear hm hmd hT hM rd hst k19 k11
          go_wp2_with fail
          refine (C.value _ _).mono ?_
          rintro e w' ⟨rfl, hw'⟩
          have hw' := hw'.symm
          subst hw'
          go_wp2_with fail
          refine HB.mono ?_
          rintro e w' ⟨rfl, hw'⟩
          have hw' := hw'.symm
          subst hw'
          clear HB
          go_wp2_with fail
          refine HRe.mono ?_
          rintro e w' ⟨rfl, hw'⟩
          have hw' := hw'.symm
          subst hw'
          clear HRe
          go_wp2_with fail
          go_region_held3 (fun w' => w'.cell? ⟨nb, n * 36 + 19 + i, none⟩ = some (.int .i32 (h.ref n i)) ∧ w'.cell? ⟨nb, n * 36 + 11 + i, none⟩ = some (.float .f64 (fl (sm n i))))
            (first
              | (exact ⟨Hk19.out _ HT.out, Hk11.out _ HT.out⟩)
              | (exact ⟨Hk19.out _ hT2.out, Hk11.out _ hT2.out⟩)
              | (exact ⟨by rw [World.cell?_setCell_other _ _ _ _ (by simp)]; exact Hk19.out _ hT2.out, World.cell?_setCell_same _ _ _ (Hk11.out _ hT2.out)⟩))
            (first | (refine HBd.mono ?_; rintro e w2 ⟨rfl, F2, hE2, hc2, hF2⟩; have hT2 : Hid (Tr w2 base tb cb nb h.N cap M) := HT.out.chg hc2 HF1.out.1 HF1.out.2.1 HF1.out.2.2; have HE2 : Hid _ := hE2; have HC2 : Hid _ := hc2; have HF2 : Hid _ := hF2; have sf2 := hT2.out.softn (n * 36 + 11 + i); have s02 := Hk11.out _ hT2.out; clear hE2 hc2 hF2))
          have hwi : IntKind.i32.wrap (i : Int) = (i : Int) := by rw [IntKind.wrap_i32]; omega
          have mid3 := (HM.out.client HE2.out HC2.out HF2.out).nodes (hT2.out.set (n := n) (o := 11 + i) (by omega) (.float .f64 (fl (sm n i)))) (by have := HMm.out.setSum o n i h1 h2 hlt (sm n i); rwa [up2_same] at this) (Chg.setCell (S := fun k => k = nb) w2 ⟨nb, n * 36 + (11 + i), none⟩ _ rfl)
          have s03 : (w2.setCell ⟨nb, n * 36 + (11 + i), none⟩ (.float .f64 (fl (sm n i)))).cell? ⟨nb, n * 36 + (11 + i), none⟩ = some (.float .f64 (fl (sm n i))) := World.cell?_setCell_same _ _ _ (by rw [← Nat.add_assoc]; exact Hk11.out _ hT2.out)
          rw [← Nat.add_assoc] at mid3 s03
          clear s02 sf2 c19 s0 c0 c1 c2
          rename_i hHeld
          clear hHeld
          generalize (w2.setCell ⟨nb, n * 36 + 11 + i, none⟩ (.float .f64 (fl (sm n i)))) = W3 at mid3 s03 ⊢
          have HB3 := C.barred _ _ _ mid3.1.e
          have HQ := queueUp_walk W3 base u1 q' ⟨sm n i, n, i, false⟩ mid3.1.qr mid3.1.heap (by omega) mid3.1.qsm HSm.out mid3.1.low
          unfold ua at HQ
          have HM3 : Hid _ := mid3
          clear mid3 HM HE2 HC2 HF2 hT2 HT HBd
          go_wp2_with fail
          refine (C.value _ _).mono ?_
          rintro e w' ⟨rfl, hw'⟩
          have hw' := hw'.symm
          subst hw'
          go_wp2_with fail
          refine HB3.mono ?_
          rintro e w' ⟨rfl, hw'⟩
          have hw' := hw'.symm
          subst hw'
          go_wp2_with fail
          refine HQ.mono ?_
          intro e w4 hQ
          obtain ⟨qv2, he⟩ : ∃ qv2, e = .returned qv2 := by obtain ⟨_, _, _, he, _⟩ := hQ; exact ⟨_, he⟩
          subst he
          have HQ2 : Hid _ := hQ
          clear hQ HQ
          go_wp2_with fail
          go_roundw
          case rel =>
            exact ⟨i + 1, by omega, by omega, by go_num, Mid.pushed HM3.out HPk.out (by rw [if_pos hlf, newsTo_push _ _ _ _ _ _ HPk.out, List.length_append]; rfl) HSm.out HQ2.out⟩
          case measure => simp [intOf]; omega
    · have hltd : decide ((i : Int) < (h.cnt n : Int)) = false := by rw [decide_eq_false_iff_not]; omega
      go_wp2_with fail
      go_ret
      exact ⟨_, rfl, by rw [show h.cnt n = i by omega]; exact hst⟩
end Go.Proofs.Ybulkbuhe
