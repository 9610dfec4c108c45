/-
  The walk of leastFirst.
-/
import Derived.Test.YbulkbuheB11
import Derived.Deep.RegionHeld3
import Derived.OwnWalk
import Derived.Deep.QuietTactic
import Derived.BigQuiet
namespace Go.Proofs.Ybulkbuhe
open Go.RowKit Fl
attribute [local go_sem] run_store_float setCell_drewN alloc_drewN
attribute [-go_sem] World.setCell_alloc_at World.setCell_alloc_past

theorem takeH {P : Program} {md : Region.Mode} {ops : Array Oper} {Q : Exit → Act → World → Prop} {S : World → Prop} {i : Nat} {oi : Oper} {v : Value} {fuel : Nat} {listed : Array Bool} {a : Act} {w : World} (d : Option Tmp) (hi : ops[i]? = some oi) (hd : oi.dst = d)
    (hs : Region.noSelect ops = true) (hf : Region.free md ops listed i = true) (hr : (Region.ready md ops listed).contains i = true)
    (hQ : ∀ c a w, Q (.panic c) (a.put oi.dst v) w → Q (.panic c) a w) (hy : YieldsIf P ops S oi v a) (hS : S w)
    (h : wpAnyH P md ops Q S fuel (listed.setIfInBounds i true) (a.put d v) w) : wpAnyH P md ops Q S (fuel + 1) listed a w :=
  wpAnyH_take hi hs hf hr hQ hy hS (by rw [hd]; exact h)

theorem Popd.idle {base : Nat} {C : Client base} {h : Shape} {key : Int} {vals : Nat → Int} {tb cb nb cap : Nat} {sn : Nat → Int} {F0 : Nat → Prop} {w : World} {q1 : List Un} {ent : List Stp} {tr : List Vis} {sm : Nat → Nat → Int} {b : Nat} {F : Nat → Prop} {qv ev : Value} {W W2 : World} {u : Un} {be : Nat}
    (P : Popd C h key vals tb cb nb cap sn F0 w u q1 ent tr sm b F qv ev be W) (hc : Chg (fun _ => False) W W2) : Popd C h key vals tb cb nb cap sn F0 w u q1 ent tr sm b F qv ev be W2 :=
  ⟨P.sys.idle hc (fun _ e => e.elim), P.inv, P.ents, hc.row P.er (fun _ _ => id), P.esep, P.qnew, P.fnew, P.chg.trans hc (fun _ _ e => e.elim), P.wgt, P.least, P.box.chg hc id, P.bt, P.bc, P.bn, P.bq, P.bf, P.bev⟩

set_option maxHeartbeats 4000000 in
set_option maxRecDepth 100000 in
theorem leastFirst_walk {base : Nat} (C : Client base) (h : Shape) (o : h.Ok) (w : World) (tb cb nb cap : Nat) (sm : Nat → Nat → Int) (sn : Nat → Int) (key : Int) (vals : Nat → Int) (F : Nat → Prop)
    (y : Sys C h w tb cb nb cap sm sn (.slice none 0 0) [] ⟨0, []⟩ F) (t5 : w.cell? ⟨tb, 5, none⟩ = some (.slice none 0 0)) (t6 : w.cell? ⟨tb, 6, none⟩ = some (.slice none 0 0))
    (hvals : ∀ j, 0 ≤ vals j ∧ vals j ≤ 255) (hext : ∀ j, 0 ≤ C.ext j ∧ C.ext j ≤ 255)
    (hleaf : ∀ n i, 1 ≤ n → n < h.N → i < h.cnt n → h.leaf n = true → sm n i = vals (h.s n i)) (hbr : ∀ n i, 1 ≤ n → n < h.N → i < h.cnt n → h.leaf n = false → IsMin vals (h.s n i) (h.s n (i + 1)) (sm n i))
    (hroot : IsMin vals 0 h.len (sn h.root)) (hgood : ∀ l, Good h.len vals C.ext l → C.good l) :
    Calls Yba.prog 6 #[.pointer (some ⟨tb, 0, none⟩), .int .i32 h.root, .int .i32 key, .func (.func C.fv) #[] #[], .func (.func C.fb) #[] C.cb, .func (.func C.fn) #[] C.cn, .func (.func C.fs) #[] C.cs, .iface 45 (.agg #[])] w (LFPost C h key vals tb cb nb cap F w) := by
  have k1 := o.root1
  have kN : h.root < h.N := by have := o.rootN; omega
  have hr0 : ((h.root : Int) == 0) = false := by simp; omega
  have evs := C.entv
  have ebs := C.entb
  have ens := C.entn
  have ess := C.ents
  obtain ⟨M0, hT0, hM0⟩ := y.mem
  have HNd := node_walk w base tb cb nb h.N cap h.root M0 hT0 kN
  have c27 := hT0.at kN (show 27 < 36 by decide)
  rw [hM0.sum h.root k1 kN] at c27
  have hsmr : Small (sn h.root) := by
    obtain ⟨j, _, _, e⟩ := hroot.2
    rw [e]
    have := hvals j
    exact small_of (by omega) (by omega)
  have hge := fl_geq (sn h.root) C.bar hsmr C.small
  have HB := C.barred _ _ _ y.e
  have hltt := hT0.ltt
  have hrng : ∀ i, i < h.cnt h.root → Small (sm h.root i) := fun i hi => (Inv.start (h := h) (key := key) (bar := C.bar) (vals := vals) (ext := C.ext) o hleaf hbr).range hvals hext h.root i k1 kN hi
  have HQ := queueAfter_walk C h o w tb cb nb cap sm sn key h.root (.slice none 0 0) [] 0 [] F y k1 kN hrng (by decide) (by decide)
  have HY : Hid _ := y
  have HL : Hid _ := hleaf
  have HBr : Hid _ := hbr
  have HRt : Hid _ := hroot
  have HG : Hid _ := hgood
  clear hleaf hbr hroot hgood hrng y
  by_cases hbar : C.bar ≤ sn h.root
  · have d : decide (C.bar ≤ sn h.root) = true := by rw [decide_eq_true_iff]; exact hbar
    go_enter Yba.func6, Yba.ntmps6
    go_wp2_with (first | (go_at_call 16; refine HNd.mono ?_; rintro e w' ⟨rfl, hw'⟩; have hw' := hw'.symm; subst hw'))
    refine (C.value _ _).mono ?_
    rintro e w' ⟨rfl, hw'⟩
    have hw' := hw'.symm
    subst hw'
    go_wp2_with fail
    refine HB.mono ?_
    rintro e w' ⟨rfl, hw'⟩
    have hw' := hw'.symm
    subst hw'
    go_wp2_with fail
    refine bodyPost_ret (results_none rfl _ _ _) rfl ?_
    exact lf_none HY.out HL.out HRt.out hbar
  · have d : decide (C.bar ≤ sn h.root) = false := by rw [decide_eq_false_iff_not]; exact hbar
    go_enter Yba.func6, Yba.ntmps6
    go_wp2_with (first | (go_at_call 16; refine HNd.mono ?_; rintro e w' ⟨rfl, hw'⟩; have hw' := hw'.symm; subst hw'))
    refine (C.value _ _).mono ?_
    rintro e w' ⟨rfl, hw'⟩
    have hw' := hw'.symm
    subst hw'
    go_wp2_with fail
    refine HB.mono ?_
    rintro e w' ⟨rfl, hw'⟩
    have hw' := hw'.symm
    subst hw'
    go_wp2_with fail
    refine HQ.mono ?_
    rintro e w1 ⟨qv, rfl, hQ⟩
    have hch1 : Chg (fun k => k = nb ∨ (Value.slice none 0 0).ownBlock = some k ∨ F k) w w1 := by
      obtain ⟨_, _, _, _, hc, _⟩ := hQ
      exact hc
    have t61 : w1.cell? ⟨tb, 6, none⟩ = some (.slice none 0 0) := (hch1.cell (p := ⟨tb, 6, none⟩) hltt (by
      rintro (e | e | e)
      · exact hT0.tbn e
      · cases e
      · exact HY.out.ft e)).trans t6
    have hlow : base ≤ w1.heap.size := Nat.le_trans HY.out.low hch1.size
    have HQA : Hid _ := hQ
    have HT5c : Hid (w.cell? ⟨tb, 5, none⟩ = some (.slice none 0 0)) := t5
    have HT6c : Hid (w.cell? ⟨tb, 6, none⟩ = some (.slice none 0 0)) := t6
    clear hQ HQ HB HNd hch1 c27 t5 t6 hge hM0
    obtain ⟨i0, hi, hz, hsz, hby⟩ := info_parts info69
    have news : ∀ j x, [Value.int .i32 h.root, .int .i32 0, .int .i32 0][j]? = some x → (w1.alloc (.cells #[.int .i32 h.root, .int .i32 0, .int .i32 0] 69)).cell? ((⟨w1.heap.size, 0, none⟩ : Addr).add j) = some x := fun j x hj => by
      rw [show (⟨w1.heap.size, 0, none⟩ : Addr).add j = ⟨w1.heap.size, j, none⟩ by simp [Addr.add, eq_comm], World.cell?_alloc_new]
      simpa using hj
    have hone : ∀ x ∈ [Value.int .i32 h.root, .int .i32 0, .int .i32 0], x.oneCell' = true := fun x hx => by
      simp only [List.mem_cons, List.not_mem_nil, or_false] at hx
      rcases hx with rfl | rfl | rfl <;> rfl
    have hs2 : (w1.alloc (.cells #[.int .i32 h.root, .int .i32 0, .int .i32 0] 69)).heap.size = w1.heap.size + 1 := by simp
    have hb2 : base ≤ (w1.alloc (.cells #[.int .i32 h.root, .int .i32 0, .int .i32 0] 69)).heap.size := by rw [hs2]; omega
    go_wp2_with (at_builtin; go_loud (refine wpList_append_lies _ rfl (.tmp 57) (.tmp 60) 30 rfl base 69 i0 _ 3 12 Yba.underlying30 hi hz hsz hby rfl (by decide) (.slice none 0 0) 0 [] rfl (World.ownsRow_nil _ _ _ _) ⟨w1.heap.size, 0, none⟩ 1 1 [.int .i32 h.root, .int .i32 0, .int .i32 0] rfl rfl news hone (by decide) (by unfold maxLen; omega) (by omega) hb2 (w1.heap.size + 1) hs2 ?_); intro ge cape w2 hown2 hgrow2 hlie2 hlt2)
    have hst := start_loop (w2 := w2) o HL.out HBr.out HQA.out (ge := ge) (cape := cape) (by
      have he : [Value.int .i32 h.root, .int .i32 0, .int .i32 0] = erow [⟨h.root, 0, 0⟩] := erow_append [] ⟨h.root, 0, 0⟩
      rw [← he]
      exact hown2) ((Chg.alloc _ w1 _).trans (Chg.grown (S := fun _ => False) hgrow2 (fun k e => by cases e)) (fun _ _ e => e)) (by
      rcases hlie2 with e | e
      · cases e
      · omega)
    clear news hone hs2 hb2 hi hz hsz hby hown2 hgrow2 hlie2 hlow t61
    obtain ⟨q0, F1, hst⟩ := hst
    have HQ0 : Hid _ := hst
    clear hst HQA hT0 hltt hsmr d hbar hlt2
    go_loopw [16, 17] (fun qv ev wr => ∃ n, LoopN C h key vals tb cb nb cap sn F w qv ev wr n) (fun qv ev wr => lst (LoopN C h key vals tb cb nb cap sn F w qv ev wr))
    case atStart => exact ⟨_, q0, _, _, _, _, F1, HQ0.out, rfl⟩
    case round =>
      have hmin := lst_spec hrel
      have HMin : Hid (LoopN C h key vals tb cb nb cap sn F w u16 u17 wr (lst (LoopN C h key vals tb cb nb cap sn F w u16 u17 wr))) := hmin
      clear hrel
      obtain ⟨q, ent, tr, sm1, b, F2, hL, hwt⟩ := hmin
      have HWt : Hid (wts h q = lst (LoopN C h key vals tb cb nb cap sn F w u16 u17 wr)) := hwt
      clear hwt HQ0
      obtain ⟨ac, cc, hqv⟩ : ∃ ac cc, u16 = .slice ac q.length cc := by
        rcases hL.sys.qr.2 with ⟨e1, e2⟩ | ⟨g, c, _, e1, _⟩
        · exact ⟨none, 0, by rw [e1, e2]⟩
        · exact ⟨_, c, e1⟩
      have hent : 0 < ent.length := by
        rcases Nat.eq_zero_or_pos ent.length with e | e
        · have := hL.ents.head
          rw [List.getElem?_eq_none (by omega)] at this
          cases this
        · exact e
      obtain ⟨ge, cape, hev, _, _⟩ := hL.er.form hent
      have HBar : ∀ n, Calls Yba.prog C.fb C.cb (wr.drewN n) (RetPost (.float .f64 (fl C.bar)) (wr.drewN n)) := fun n => C.barred _ _ _ (hL.idle (Chg.drewN _ _ n)).sys.e
      subst hqv
      subst hev
      by_cases hn : 0 < q.length
      · obtain ⟨g, c', hform, _, hglt⟩ := hL.sys.qr.form hn
        obtain ⟨hac, _, hcc⟩ := Value.slice.inj hform
        subst hac
        subst hcc
        have QRq : QR wr base g cc q := hL.sys.qr
        have hq0 := QRq.at (j := 0) (o := 0) hn (by decide)
        rw [Nat.zero_mul, Nat.zero_add] at hq0
        simp only [uc] at hq0
        have hsm0 : Small (qa q 0).v := hL.sys.qsm _ (qa_mem q 0 hn)
        have hlt0 := fl_lt (qa q 0).v C.bar hsm0 C.small
        have dn : decide (0 < q.length) = true := by rw [decide_eq_true_iff]; exact hn
        by_cases hb : (qa q 0).v < C.bar
        · have db : decide ((qa q 0).v < C.bar) = true := by rw [decide_eq_true_iff]; exact hb
          have HL1 : Hid _ := hL
          clear hL QRq
          go_wp2_with fail
          go_quiet (exact Calls.quiet_of_same (HBar _))
          go_wp2_with fail
          obtain ⟨m, hm⟩ : ∃ m, q.length = m + 1 := ⟨q.length - 1, by omega⟩
          change Calls _ _ _ ((wr.alloc zo).drewN nq) _
          rw [← alloc_drewN]
          have hL2 := HL1.out.idle ((Chg.drewN (fun _ => False) wr nq).trans (Chg.alloc _ _ zo) (fun _ _ h => h))
          have hlen := wts_len o q HL1.out.inv.pos
          have hwgt := HL1.out.wgt
          refine (takeLeast_walk ((wr.drewN nq).alloc zo) base g cc q.length m q hL2.sys.qr hL2.sys.heap rfl hm (by omega) hL2.sys.qsm).mono ?_
          intro e w3 hT
          have hch3 : Chg (fun k => k = g) ((wr.drewN nq).alloc zo) w3 := by
            obtain ⟨_, _, _, _, _, hc⟩ := hT
            exact hc
          obtain ⟨q1, he, hperm, hP⟩ := HL1.out.pop hT
          subst he
          have hz : ∀ k, w3.cell? ⟨wr.heap.size, k, none⟩ = (#[Value.float .f64 0, .int .i32 0, .int .i32 0, .bool false] : Array Value)[k]? := fun k => by
            rw [hch3.cell (p := ⟨wr.heap.size, k, none⟩) (by simp) (by show wr.heap.size ≠ g; omega)]
            exact World.cell?_alloc_new (wr.drewN nq) _ _ _
          have z0 := hz 0
          have z1 := hz 1
          have z2 := hz 2
          have z3 := hz 3
          simp only [List.getElem?_toArray, List.getElem?_cons_zero, List.getElem?_cons_succ] at z0 z1 z2 z3
          have zf : ∀ k, w3.frozen? ⟨wr.heap.size, k, none⟩ = false := fun k => by
            rw [hch3.frozen (p := ⟨wr.heap.size, k, none⟩) (by simp) (by show wr.heap.size ≠ g; omega)]
            exact World.frozen?_alloc_new (wr.drewN nq) _ _ _
          have HWp : Hid (wts h (qa q 0 :: q1) = lst (LoopN C h key vals tb cb nb cap sn F w (.slice (some ⟨g, 0, none⟩) q.length cc) (.slice (some ⟨ge, 0, none⟩) ent.length cape) wr)) := by
            show wts h (qa q 0 :: q1) = _
            rw [← wts_perm h hperm]; exact HWt.out
          have HPp : Hid _ := hP
          unfold ua
          clear hz hT hch3 hL2 hlen hP hperm HL1 hq0 hlt0 dn db hm
          go_wp2_with fail
          refine gen_world _ HPp.out ?_
          intro W hP
          clear HPp z0 z1 z2 z3 zf hsm0 hn hglt HBar HMin HWt hwgt
          generalize wr.heap.size = be at hP ⊢
          generalize qa q 0 = u at hP hb HWp ⊢
          obtain ⟨M, hTr, hM⟩ := hP.sys.mem
          obtain ⟨p1, p2, p3⟩ := hP.inv.pos u (List.mem_cons_self ..)
          have p8 := o.cnt8 u.n p1 p2
          have rd := reads_of hTr hM o u.n u.i p1 p2
          have HNd : ∀ n, Calls Yba.prog 16 #[.pointer (some ⟨tb, 0, none⟩), .int .i32 u.n] (W.drewN n) fun e w' => e = .returned (.pointer (some ⟨nb, u.n * 36, none⟩)) ∧ w' = W.drewN n := fun n => node_walk _ base tb cb nb h.N cap u.n M (hTr.drewN n) p2
          have b0 := hP.box 0 (by decide)
          have b1 := hP.box 1 (by decide)
          have b2 := hP.box 2 (by decide)
          have b3 := hP.box 3 (by decide)
          simp only [uc] at b0 b1 b2 b3
          have c1 := rd.leaf
          have HP : Hid _ := hP
          have HTr : Hid (Tr W base tb cb nb h.N cap M) := hTr
          have HMm : Hid (Mem h M sm1 sn) := hM
          clear hP hTr hM rd
          cases hlf : h.leaf u.n with
          | true =>
            rw [hlf] at c1
            go_quiet ((go_at_call 16; exact Calls.quiet_of_same (HNd _)))
            go_wp2_with fail
            have hst : Step h.len vals C.ext tr ⟨h.s u.n u.i, u.v, u.again⟩ ∧ sm1 u.n u.i = u.v := by
              cases hag : u.again with
              | true =>
                obtain ⟨_, e1, e2, _⟩ := HP.out.inv.second o hag hb HP.out.least
                exact ⟨e2, e1⟩
              | false =>
                obtain ⟨e1, _, e2, _⟩ := HP.out.inv.first o (fun j => (hext j).1) hag hlf HP.out.least
                exact ⟨e2, e1⟩
            have hgd : C.good (tr ++ [⟨h.s u.n u.i, u.v, u.again⟩]) := HG.out _ (HP.out.inv.good.snoc hst.1)
            have href := (o.leafs u.n u.i p1 p2 p3 hlf).1
            have hPV := HP.out.idle ((Chg.drewN (fun _ => False) W nq).trans (Chg.drew _ _) (fun _ _ h => h))
            have hTV : Tr (W.drewN nq).drew base tb cb nb h.N cap M := (HTr.out.drewN nq).drew
            have kref : ∀ w', Tr w' base tb cb nb h.N cap M → w'.cell? ⟨nb, u.n * 36 + 19 + u.i, none⟩ = some (.int .i32 (h.s u.n u.i)) := fun w' hT => by rw [← href]; exact (reads_of hT HMm.out o u.n u.i p1 p2).ref p3
            have ksum : ∀ w', Tr w' base tb cb nb h.N cap M → w'.cell? ⟨nb, u.n * 36 + 11 + u.i, none⟩ = some (.float .f64 (fl u.v)) := fun w' hT => by rw [← hst.2]; exact (reads_of hT HMm.out o u.n u.i p1 p2).sum p3
            have Hkref : Hid _ := kref
            have Hksum : Hid _ := ksum
            refine wp_region_held_drew (S := fun w' => w'.cell? ⟨nb, u.n * 36 + 19 + u.i, none⟩ = some (.int .i32 (h.s u.n u.i)) ∧ w'.cell? ⟨be, 3, none⟩ = some (.bool u.again)) (by kernel_rfl) ⟨kref _ hTV, hPV.box 3 (by decide)⟩ (fun hHeld => ?_)
            clear kref ksum HP HTr
            generalize (W.drewN nq).drew = V at hPV hTV hHeld ⊢
            have s0 := Hksum.out _ hTV
            have HVis := C.visit b tr F2 V ⟨h.s u.n u.i, u.v, u.again⟩ hPV.sys.e hgd
            obtain ⟨ns, hns⟩ : ∃ ns, ns = if u.again = false ∧ 0 < C.ext (h.s u.n u.i) then u.v + C.ext (h.s u.n u.i) else u.v := ⟨_, rfl⟩
            obtain ⟨dd, hdd⟩ : ∃ dd, dd = decide (u.again = false ∧ 0 < C.ext (h.s u.n u.i)) := ⟨_, rfl⟩
            dsimp only at HVis
            rw [← hns, ← hdd] at HVis
            have HPV : Hid _ := hPV
            have HTV : Hid (Tr V base tb cb nb h.N cap M) := hTV
            have HNs : Hid (ns = if u.again = false ∧ 0 < C.ext (h.s u.n u.i) then u.v + C.ext (h.s u.n u.i) else u.v) := hns
            have HDd : Hid (dd = decide (u.again = false ∧ 0 < C.ext (h.s u.n u.i))) := hdd
            have hui0 : (0 : Int) ≤ (u.i : Int) := by omega
            have hui8 : (u.i : Int) < 8 := by omega
            clear hPV hTV hns hdd hst hgd c1 b0 b1 b2 b3 HNd href
            refine takeH (i := 0) (v := .pointer (some ⟨nb, u.n * 36, none⟩)) (some 91) rfl rfl (by kernel_rfl) (by kernel_rfl) (by kernel_rfl) (fun _ _ _ h => h) (Or.inl ⟨by rfl, by intro w hSw; (try dsimp only at hSw); go_simp; try rfl⟩) hHeld ?_
            simp only [Act.put, List.setIfInBounds_toArray, List.set_cons_zero, List.set_cons_succ]
            refine takeH (i := 1) (v := .int .i64 u.i) (some 92) rfl rfl (by kernel_rfl) (by kernel_rfl) (by kernel_rfl) (fun _ _ _ h => h) (Or.inl ⟨by rfl, by intro w hSw; (try dsimp only at hSw); go_simp; try rfl⟩) hHeld ?_
            simp only [Act.put, List.setIfInBounds_toArray, List.set_cons_zero, List.set_cons_succ]
            refine takeH (i := 2) (v := .func (.func C.fs) #[] C.cs) (some 93) rfl rfl (by kernel_rfl) (by kernel_rfl) (by kernel_rfl) (fun _ _ _ h => h) (Or.inl ⟨by rfl, by intro w hSw; (try dsimp only at hSw); go_simp; try rfl⟩) hHeld ?_
            simp only [Act.put, List.setIfInBounds_toArray, List.set_cons_zero, List.set_cons_succ]
            refine takeH (i := 3) (v := .pointer (some ⟨nb, u.n * 36, none⟩)) (some 94) rfl rfl (by kernel_rfl) (by kernel_rfl) (by kernel_rfl) (fun _ _ _ h => h) (Or.inl ⟨by rfl, by intro w hSw; (try dsimp only at hSw); go_simp; try rfl⟩) hHeld ?_
            simp only [Act.put, List.setIfInBounds_toArray, List.set_cons_zero, List.set_cons_succ]
            refine takeH (i := 4) (v := .int .i64 u.i) (some 95) rfl rfl (by kernel_rfl) (by kernel_rfl) (by kernel_rfl) (fun _ _ _ h => h) (Or.inl ⟨by rfl, by intro w hSw; (try dsimp only at hSw); go_simp; try rfl⟩) hHeld ?_
            simp only [Act.put, List.setIfInBounds_toArray, List.set_cons_zero, List.set_cons_succ]
            refine takeH (i := 5) (v := .pointer (some ⟨nb, u.n * 36, none⟩)) (some 96) rfl rfl (by kernel_rfl) (by kernel_rfl) (by kernel_rfl) (fun _ _ _ h => h) (Or.inl ⟨by rfl, by intro w hSw; (try dsimp only at hSw); go_simp; try rfl⟩) hHeld ?_
            simp only [Act.put, List.setIfInBounds_toArray, List.set_cons_zero, List.set_cons_succ]
            refine takeH (i := 6) (v := .pointer (some ⟨nb, u.n * 36 + 19, none⟩)) (some 97) rfl rfl (by kernel_rfl) (by kernel_rfl) (by kernel_rfl) (fun _ _ _ h => h) (Or.inl ⟨by rfl, by intro w hSw; (try dsimp only at hSw); go_simp; try rfl⟩) hHeld ?_
            simp only [Act.put, List.setIfInBounds_toArray, List.set_cons_zero, List.set_cons_succ]
            refine takeH (i := 7) (v := .pointer (some ⟨nb, u.n * 36 + 19 + u.i, none⟩)) (some 98) rfl rfl (by kernel_rfl) (by kernel_rfl) (by kernel_rfl) (fun _ _ _ h => h) (Or.inl ⟨by rfl, by intro w hSw; (try dsimp only at hSw); go_simp; try rfl⟩) hHeld ?_
            simp only [Act.put, List.setIfInBounds_toArray, List.set_cons_zero, List.set_cons_succ]
            refine takeH (i := 8) (v := .int .i32 (h.s u.n u.i)) (some 99) rfl rfl (by kernel_rfl) (by kernel_rfl) (by kernel_rfl) (fun _ _ _ h => h) (Or.inl ⟨by rfl, by intro w hSw; (try dsimp only at hSw); go_simp; try rfl⟩) hHeld ?_
            simp only [Act.put, List.setIfInBounds_toArray, List.set_cons_zero, List.set_cons_succ]
            refine takeH (i := 9) (v := .pointer (some ⟨nb, u.n * 36, none⟩)) (some 100) rfl rfl (by kernel_rfl) (by kernel_rfl) (by kernel_rfl) (fun _ _ _ h => h) (Or.inl ⟨by rfl, by intro w hSw; (try dsimp only at hSw); go_simp; try rfl⟩) hHeld ?_
            simp only [Act.put, List.setIfInBounds_toArray, List.set_cons_zero, List.set_cons_succ]
            refine takeH (i := 10) (v := .int .i64 u.i) (some 101) rfl rfl (by kernel_rfl) (by kernel_rfl) (by kernel_rfl) (fun _ _ _ h => h) (Or.inl ⟨by rfl, by intro w hSw; (try dsimp only at hSw); go_simp; try rfl⟩) hHeld ?_
            simp only [Act.put, List.setIfInBounds_toArray, List.set_cons_zero, List.set_cons_succ]
            refine takeH (i := 11) (v := .pointer (some ⟨nb, u.n * 36, none⟩)) (some 102) rfl rfl (by kernel_rfl) (by kernel_rfl) (by kernel_rfl) (fun _ _ _ h => h) (Or.inl ⟨by rfl, by intro w hSw; (try dsimp only at hSw); go_simp; try rfl⟩) hHeld ?_
            simp only [Act.put, List.setIfInBounds_toArray, List.set_cons_zero, List.set_cons_succ]
            refine takeH (i := 12) (v := .pointer (some ⟨nb, u.n * 36 + 11, none⟩)) (some 103) rfl rfl (by kernel_rfl) (by kernel_rfl) (by kernel_rfl) (fun _ _ _ h => h) (Or.inl ⟨by rfl, by intro w hSw; (try dsimp only at hSw); go_simp; try rfl⟩) hHeld ?_
            simp only [Act.put, List.setIfInBounds_toArray, List.set_cons_zero, List.set_cons_succ]
            refine takeH (i := 13) (v := .pointer (some ⟨nb, u.n * 36 + 11 + u.i, none⟩)) (some 104) rfl rfl (by kernel_rfl) (by kernel_rfl) (by kernel_rfl) (fun _ _ _ h => h) (Or.inl ⟨by rfl, by intro w hSw; (try dsimp only at hSw); go_simp; try rfl⟩) hHeld ?_
            simp only [Act.put, List.setIfInBounds_toArray, List.set_cons_zero, List.set_cons_succ]
            refine takeH (i := 15) (v := .pointer (some ⟨be, 3, none⟩)) (some 106) rfl rfl (by kernel_rfl) (by kernel_rfl) (by kernel_rfl) (fun _ _ _ h => h) (Or.inl ⟨by rfl, by intro w hSw; (try dsimp only at hSw); go_simp; try rfl⟩) hHeld ?_
            simp only [Act.put, List.setIfInBounds_toArray, List.set_cons_zero, List.set_cons_succ]
            refine takeH (i := 16) (v := .bool u.again) (some 107) rfl rfl (by kernel_rfl) (by kernel_rfl) (by kernel_rfl) (fun _ _ _ h => h) (Or.inl ⟨by rfl, by intro w hSw; (try dsimp only at hSw); go_simp; try rfl⟩) hHeld ?_
            simp only [Act.put, List.setIfInBounds_toArray, List.set_cons_zero, List.set_cons_succ]
            refine takeH (i := 22) (v := .pointer (some ⟨nb, u.n * 36, none⟩)) (some 112) rfl rfl (by kernel_rfl) (by kernel_rfl) (by kernel_rfl) (fun _ _ _ h => h) (Or.inl ⟨by rfl, by intro w hSw; (try dsimp only at hSw); go_simp; try rfl⟩) hHeld ?_
            simp only [Act.put, List.setIfInBounds_toArray, List.set_cons_zero, List.set_cons_succ]
            refine takeH (i := 23) (v := .pointer (some ⟨nb, u.n * 36 + 11, none⟩)) (some 113) rfl rfl (by kernel_rfl) (by kernel_rfl) (by kernel_rfl) (fun _ _ _ h => h) (Or.inl ⟨by rfl, by intro w hSw; (try dsimp only at hSw); go_simp; try rfl⟩) hHeld ?_
            simp only [Act.put, List.setIfInBounds_toArray, List.set_cons_zero, List.set_cons_succ]
            refine wpAnyH_ready (rs := [14]) (by kernel_rfl) (by simp) ?_
            refine AllReadyH.cons rfl (fun K hK => ?_) AllReadyH.nil
            go_simp
            refine hK.out _ _ hHeld (fun hHeld => ?_)
            clear hK K
            refine wpAnyH_ready (rs := [17]) (by kernel_rfl) (by simp) ?_
            refine AllReadyH.cons rfl (fun K hK => ?_) AllReadyH.nil
            go_simp
            go_wp2_with (refine HVis.mono ?_; rintro e w4 ⟨⟨y2, rfl, hy2⟩, F4, hE4, hc4, hF4⟩)
            have hT4 : Tr w4 base tb cb nb h.N cap M := HTV.out.chg hc4 HPV.out.sys.ft HPV.out.sys.fc HPV.out.sys.fn
            have hB4 : Box w4 be u := HPV.out.box.chg hc4 HPV.out.bf
            refine hK.out _ _ ⟨Hkref.out _ hT4, hB4 3 (by decide)⟩ (fun hHeld => ?_)
            clear hK K
            have hs4 := Hksum.out _ hT4
            have sf4 := hT4.softn (u.n * 36 + 11 + u.i)
            refine takeH (i := 18) (v := .tuple #[.float .f64 (fl ns), .float .f64 y2, .bool dd]) (some 90) rfl rfl (by kernel_rfl) (by kernel_rfl) (by kernel_rfl) (fun _ _ _ h => h) (Or.inl ⟨by rfl, by intro w hSw; (try dsimp only at hSw); go_simp; try rfl⟩) hHeld ?_
            simp only [Act.put, List.setIfInBounds_toArray, List.set_cons_zero, List.set_cons_succ]
            refine takeH (i := 19) (v := .float .f64 (fl ns)) (some 109) rfl rfl (by kernel_rfl) (by kernel_rfl) (by kernel_rfl) (fun _ _ _ h => h) (Or.inl ⟨by rfl, by intro w hSw; (try dsimp only at hSw); go_simp; try rfl⟩) hHeld ?_
            simp only [Act.put, List.setIfInBounds_toArray, List.set_cons_zero, List.set_cons_succ]
            refine takeH (i := 20) (v := .float .f64 y2) (some 110) rfl rfl (by kernel_rfl) (by kernel_rfl) (by kernel_rfl) (fun _ _ _ h => h) (Or.inl ⟨by rfl, by intro w hSw; (try dsimp only at hSw); go_simp; try rfl⟩) hHeld ?_
            simp only [Act.put, List.setIfInBounds_toArray, List.set_cons_zero, List.set_cons_succ]
            refine takeH (i := 21) (v := .bool dd) (some 111) rfl rfl (by kernel_rfl) (by kernel_rfl) (by kernel_rfl) (fun _ _ _ h => h) (Or.inl ⟨by rfl, by intro w hSw; (try dsimp only at hSw); go_simp; try rfl⟩) hHeld ?_
            simp only [Act.put, List.setIfInBounds_toArray, List.set_cons_zero, List.set_cons_succ]
            refine takeH (i := 24) (v := .pointer (some ⟨nb, u.n * 36 + 11 + u.i, none⟩)) (some 114) rfl rfl (by kernel_rfl) (by kernel_rfl) (by kernel_rfl) (fun _ _ _ h => h) (Or.inl ⟨by rfl, by intro w hSw; (try dsimp only at hSw); go_simp; try rfl⟩) hHeld ?_
            simp only [Act.put, List.setIfInBounds_toArray, List.set_cons_zero, List.set_cons_succ]
            refine wpAnyH_ready (rs := [25]) (by kernel_rfl) (by simp) ?_
            refine AllReadyH.cons rfl (fun K hK => ?_) AllReadyH.nil
            go_simp
            refine hK.out _ _ ⟨by rw [World.cell?_setCell_other _ _ _ _ (by simp)]; exact Hkref.out _ hT4, by rw [World.cell?_setCell_other _ _ _ _ (by intro e; exact HPV.out.bn (Addr.mk.inj e).1.symm)]; exact hB4 3 (by decide)⟩ (fun hHeld => ?_)
            clear hK K
            refine takeH (i := 26) (v := .float .f64 y2) (some 21) rfl rfl (by kernel_rfl) (by kernel_rfl) (by kernel_rfl) (fun _ _ _ h => h) (Or.inl ⟨by rfl, by intro w hSw; (try dsimp only at hSw); go_simp; try rfl⟩) hHeld ?_
            simp only [Act.put, List.setIfInBounds_toArray, List.set_cons_zero, List.set_cons_succ]
            refine takeH (i := 27) (v := .bool dd) (some 22) rfl rfl (by kernel_rfl) (by kernel_rfl) (by kernel_rfl) (fun _ _ _ h => h) (Or.inl ⟨by rfl, by intro w hSw; (try dsimp only at hSw); go_simp; try rfl⟩) hHeld ?_
            simp only [Act.put, List.setIfInBounds_toArray, List.set_cons_zero, List.set_cons_succ]
            refine wpAnyH_done (by kernel_rfl) ?_ _
            have HE4 : Hid _ := hE4
            have HC4 : Hid _ := hc4
            have HF4 : Hid _ := hF4
            have HY2 : Hid (u.again = false ∧ 0 < C.ext (h.s u.n u.i) → y2 = fl (u.v + C.ext (h.s u.n u.i))) := hy2
            have B1 : (w4.setCell ⟨nb, u.n * 36 + 11 + u.i, none⟩ (.float .f64 (fl ns))).cell? ⟨be, 1, none⟩ = some (.int .i32 u.n) := by rw [World.cell?_setCell_other _ _ _ _ (by intro e; exact HPV.out.bn (Addr.mk.inj e).1.symm)]; exact hB4 1 (by decide)
            have B2 : (w4.setCell ⟨nb, u.n * 36 + 11 + u.i, none⟩ (.float .f64 (fl ns))).cell? ⟨be, 2, none⟩ = some (.int .i32 u.i) := by rw [World.cell?_setCell_other _ _ _ _ (by intro e; exact HPV.out.bn (Addr.mk.inj e).1.symm)]; exact hB4 2 (by decide)
            have HH : Hid _ := hHeld
            clear hE4 hc4 hF4 hy2 hs4 sf4 hT4 hB4 s0 HVis HH hHeld HTV Hkref Hksum HMm
            by_cases hx : u.again = false ∧ 0 < C.ext (h.s u.n u.i)
            · have hdd : dd = true := by rw [HDd.out]; exact decide_eq_true hx
              have hns : ns = u.v + C.ext (h.s u.n u.i) := by rw [HNs.out, if_pos hx]
              have hy := HY2.out hx
              have HX : Hid (u.again = false ∧ 0 < C.ext (h.s u.n u.i)) := hx
              have hE5 := HE4.out
              rw [hx.1] at hE5
              have hv : u.v = vals (h.s u.n u.i) := (HPV.out.inv.first o (fun j => (hext j).1) hx.1 hlf HPV.out.least).2.1
              have hsmx : Small (u.v + C.ext (h.s u.n u.i)) := by
                have := hvals (h.s u.n u.i)
                have := hext (h.s u.n u.i)
                exact small_of (by omega) (by omega)
              obtain ⟨yv, _⟩ := HPV.out.visited o HE4.out HC4.out HF4.out (u.v + C.ext (h.s u.n u.i))
              have hln := wts_len o (u :: q1) HPV.out.inv.pos
              have hwg := HPV.out.wgt
              rw [List.length_cons] at hln
              rw [hns] at B1 B2
              have HQ5 := queueUp_walk _ base _ q1 ⟨u.v + C.ext (h.s u.n u.i), u.n, u.i, true⟩ yv.qr yv.heap (by omega) yv.qsm hsmx yv.low
              unfold ua at HQ5
              have HE5 : Hid _ := hE5
              have HSx : Hid _ := hsmx
              subst hdd
              subst hns
              subst hy
              clear hx hv hsmx yv hln hwg hE5
              go_wp2_with fail
              refine HQ5.mono ?_
              intro e w5 hQ
              obtain ⟨qv2, he⟩ : ∃ qv2, e = .returned qv2 := by obtain ⟨_, _, _, he, _⟩ := hQ; exact ⟨_, he⟩
              subst he
              obtain ⟨nn, hnlt, hNN⟩ := HPV.out.back o (fun j => (hext j).1) HX.out.1 hlf HX.out.2 HE5.out HC4.out HF4.out HSx.out hQ
              have HN1 : Hid (nn < wts h (u :: q1)) := hnlt
              have HN2 : Hid (LoopN C h key vals tb cb nb cap sn F w qv2 (.slice (some ⟨ge, 0, none⟩) ent.length cape) w5 nn) := hNN
              clear hQ HQ5 hnlt hNN
              go_wp2_with fail
              go_roundw
              case rel => exact ⟨nn, HN2.out⟩
              case measure => exact Nat.lt_of_le_of_lt (lst_le HN2.out) (by rw [← HWp.out]; exact HN1.out)
            · have hdd : dd = false := by rw [HDd.out]; exact decide_eq_false hx
              have hns : ns = u.v := by rw [HNs.out, if_neg hx]
              have hnew : ∃ n, n < wts h (u :: q1) ∧ LoopN C h key vals tb cb nb cap sn F w (.slice (some ⟨g, 0, none⟩) q1.length cc) (.slice (some ⟨ge, 0, none⟩) ent.length cape) (w4.setCell ⟨nb, u.n * 36 + 11 + u.i, none⟩ (.float .f64 (fl u.v))) n := by
                have hE5 := HE4.out
                cases hag : u.again with
                | true => rw [hag] at hE5; exact HPV.out.second o hag hb hE5 HC4.out HF4.out
                | false => rw [hag] at hE5; exact HPV.out.first o (fun j => (hext j).1) hag hlf (fun e => hx ⟨hag, e⟩) hE5 HC4.out HF4.out
              obtain ⟨nn, hnlt, hNN⟩ := hnew
              have HN1 : Hid (nn < wts h (u :: q1)) := hnlt
              have HN2 : Hid (LoopN C h key vals tb cb nb cap sn F w (.slice (some ⟨g, 0, none⟩) q1.length cc) (.slice (some ⟨ge, 0, none⟩) ent.length cape) (w4.setCell ⟨nb, u.n * 36 + 11 + u.i, none⟩ (.float .f64 (fl u.v))) nn) := hNN
              subst hdd
              subst hns
              clear hnlt hNN hx B1 B2
              go_wp2_with fail
              go_roundw
              case rel => exact ⟨nn, HN2.out⟩
              case measure => exact Nat.lt_of_le_of_lt (lst_le HN2.out) (by rw [← HWp.out]; exact HN1.out)
          | false =>
            rw [hlf] at c1
            have hag : u.again = false := by
              cases e : u.again with
              | false => rfl
              | true =>
                have := (HP.out.inv.ag u (List.mem_cons_self ..) e).1
                rw [hlf] at this
                cases this
            obtain ⟨k1', k2', _⟩ := o.kids u.n u.i p1 p2 p3 hlf
            have kN' : h.ref u.n u.i < h.N := by omega
            have hui0 : (0 : Int) ≤ (u.i : Int) := by omega
            have hui8 : (u.i : Int) < 8 := by omega
            have hln := wts_len o (u :: q1) HP.out.inv.pos
            have hwg := HP.out.wgt
            have hbd := HP.out.inv.bound o
            rw [List.length_cons] at hln
            go_quiet ((go_at_call 16; exact Calls.quiet_of_same (HNd _)))
            have hPV := HP.out.idle (Chg.drewN (fun _ => False) W nq)
            have hTV : Tr (W.drewN nq) base tb cb nb h.N cap M := HTr.out.drewN nq
            have rdV := reads_of hTV HMm.out o u.n u.i p1 p2
            have c1V := rdV.leaf
            rw [hlf] at c1V
            have c19V := rdV.ref p3
            have HPs := pass_walk (W.drewN nq) (.pointer (some ⟨tb, 0, none⟩)) nb u.n u.i (.iface 45 (.agg #[])) rdV.owed hui0 hui8
            have HQA := queueAfter_walk C h o (W.drewN nq) tb cb nb cap sm1 sn key (h.ref u.n u.i) _ q1 b tr F2 hPV.sys k1' kN' (fun i hi => HP.out.inv.range hvals hext _ i k1' kN' hi) (by omega) (by omega)
            have HPV : Hid _ := hPV
            clear hPV hTV rdV c1 b0 b1 b2 b3 HNd HP HTr HMm hln hwg hbd
            generalize W.drewN nq = V at HPV c1V c19V HPs HQA ⊢
            go_wp2_with fail
            refine HPs.mono ?_
            rintro e w' ⟨rfl, hw'⟩
            have hw' := hw'.symm
            subst hw'
            clear HPs
            go_wp2_with fail
            refine HQA.mono ?_
            rintro e w5 ⟨qv2, rfl, hQ⟩
            obtain ⟨q2, F4, y5, hperm5, hfrm5, hbox5⟩ := HPV.out.after hQ
            obtain ⟨M5, hT5, hM5⟩ := y5.mem
            clear HQA hQ c1V c19V
            obtain ⟨i0, hi, hz, hsz, hby⟩ := info_parts info69
            have kref : ∀ w', Tr w' base tb cb nb h.N cap M5 → w'.cell? ⟨nb, u.n * 36 + 19 + u.i, none⟩ = some (.int .i32 (h.ref u.n u.i)) := fun w' hT => (reads_of hT hM5 o u.n u.i p1 p2).ref p3
            have Hkref : Hid _ := kref
            have HT5 : Hid (Tr w5 base tb cb nb h.N cap M5) := hT5
            have HB5 : Hid (Box w5 be u) := hbox5
            have HFr : Hid (Frm base tb cb nb F w ent F4 qv2 (.slice (some ⟨ge, 0, none⟩) ent.length cape) w5) := hfrm5
            have HY5 : Hid _ := y5
            have HPm : Hid _ := hperm5
            have low5 := y5.low
            have gelt : ge < w5.heap.size := (hfrm5.er.lt ge rfl).2
            have beF : be ≠ ge := fun e => HPV.out.bev (by rw [e]; rfl)
            have geT := hfrm5.esep ge rfl
            have HEnt : Hid (ent.length ≤ 20000) := by have := HPV.out.wgt; show ent.length ≤ 20000; omega
            have own5 : ((w5.alloc (.cells #[.int .i32 (h.ref u.n u.i), .int .i32 u.n, .int .i32 u.i] 69)).drew).ownsRow base 69 3 (.slice (some ⟨ge, 0, none⟩) ent.length cape) ent.length (erow ent) := ((hfrm5.idle ((Chg.alloc _ w5 _).trans (Chg.drew _ _) (fun _ _ h => h))).er)
            have news : ∀ j x, [Value.int .i32 (h.ref u.n u.i), .int .i32 u.n, .int .i32 u.i][j]? = some x → ((w5.alloc (.cells #[.int .i32 (h.ref u.n u.i), .int .i32 u.n, .int .i32 u.i] 69)).drew).cell? ((⟨w5.heap.size, 0, none⟩ : Addr).add j) = some x := fun j x hj => by
              rw [World.cell?_drew, show (⟨w5.heap.size, 0, none⟩ : Addr).add j = ⟨w5.heap.size, j, none⟩ by simp [Addr.add, eq_comm], World.cell?_alloc_new]
              simpa using hj
            have hone : ∀ x ∈ [Value.int .i32 (h.ref u.n u.i), .int .i32 u.n, .int .i32 u.i], x.oneCell' = true := fun x hx => by
              simp only [List.mem_cons, List.not_mem_nil, or_false] at hx
              rcases hx with rfl | rfl | rfl <;> rfl
            have hs2 : ((w5.alloc (.cells #[.int .i32 (h.ref u.n u.i), .int .i32 u.n, .int .i32 u.i] 69)).drew).heap.size = w5.heap.size + 1 := by simp
            have hb2 : base ≤ ((w5.alloc (.cells #[.int .i32 (h.ref u.n u.i), .int .i32 u.n, .int .i32 u.i] 69)).drew).heap.size := by rw [hs2]; omega
            have HO : Hid _ := own5
            have HNw : Hid _ := news
            have HOn : Hid _ := hone
            clear hT5 hM5 hbox5 hfrm5 y5 hperm5 kref own5 news hone
            have hbt1 : be < w5.heap.size := World.block_lt_of_cell? w5 ⟨be, 1, none⟩ (HB5.out 1 (by decide))
            go_wp2_with fail
            go_region_held3 (fun w' => w'.cell? ⟨nb, u.n * 36 + 19 + u.i, none⟩ = some (.int .i32 (h.ref u.n u.i)) ∧ w'.cell? ⟨be, 1, none⟩ = some (.int .i32 u.n) ∧ w'.cell? ⟨be, 2, none⟩ = some (.int .i32 u.i))
              (first
                | (exact ⟨Hkref.out _ HT5.out.drew, by rw [World.cell?_drew]; exact HB5.out 1 (by decide), by rw [World.cell?_drew]; exact HB5.out 2 (by decide)⟩)
                | (exact ⟨Hkref.out _ (HT5.out.alloc _).drew, by rw [World.cell?_drew, World.cell?_alloc_lt _ _ _ hbt1]; exact HB5.out 1 (by decide), by rw [World.cell?_drew, World.cell?_alloc_lt _ _ _ hbt1]; exact HB5.out 2 (by decide)⟩)
                | (exact hs6.out))
              (first | (refine step_append_lies _ rfl (.tmp 143) (.tmp 155) 30 rfl base 69 i0 _ 3 12 Yba.underlying30 hi hz hsz hby rfl (by decide) _ ent.length (erow ent) rfl HO.out ⟨w5.heap.size, 0, none⟩ 1 1 [.int .i32 (h.ref u.n u.i), .int .i32 u.n, .int .i32 u.i] rfl rfl HNw.out HOn.out (by decide) (by unfold maxLen; have := HEnt.out; omega) (by have := HEnt.out; omega) hb2 (w5.heap.size + 1) hs2 ?_; intro ge2 cape2 w6 hown6 hgrow6 hlie6 hlt6; have hc6 : Chg (fun k => k = ge) ((w5.alloc (.cells #[.int .i32 (h.ref u.n u.i), .int .i32 u.n, .int .i32 u.i] 69)).drew) w6 := Chg.grown hgrow6 (fun k e => (Option.some.inj e).symm); have hs6 : Hid (w6.cell? ⟨nb, u.n * 36 + 19 + u.i, none⟩ = some (.int .i32 (h.ref u.n u.i)) ∧ w6.cell? ⟨be, 1, none⟩ = some (.int .i32 u.n) ∧ w6.cell? ⟨be, 2, none⟩ = some (.int .i32 u.i)) := (by
                  have hB := (HB5.out.chg (Chg.alloc (fun _ => False) w5 (.cells #[.int .i32 (h.ref u.n u.i), .int .i32 u.n, .int .i32 u.i] 69)) id).chg (Chg.drew (fun _ => False) _) id
                  have hB6 := hB.chg hc6 beF
                  exact ⟨Hkref.out _ ((HT5.out.alloc _).drew.chg hc6 (fun e => geT.1 e.symm) (fun e => geT.2.1 e.symm) (fun e => geT.2.2.1 e.symm)), hB6 1 (by decide), hB6 2 (by decide)⟩); have HO6 : Hid _ := hown6; have HC6 : Hid _ := hc6; have HL6 : Hid _ := hlie6; clear hown6 hgrow6 hc6 hlie6))
            obtain ⟨nn, hnlt, hNN⟩ := HPV.out.stepped o hag hlf HY5.out HPm.out HFr.out HO6.out (((Chg.alloc (fun k => (Value.slice (some ⟨ge, 0, none⟩) ent.length cape).ownBlock = some k) w5 (.cells #[.int .i32 (h.ref u.n u.i), .int .i32 u.n, .int .i32 u.i] 69)).trans (Chg.drew _ _) (fun _ _ h => h)).trans (HC6.out.mono (fun k _ e => by rw [e]; rfl)) (fun _ _ h => h)) (by
              rcases HL6.out with e | e
              · exact .inl e
              · exact .inr (by omega))
            have HN1 : Hid (nn < wts h (u :: q1)) := hnlt
            have HN2 : Hid (LoopN C h key vals tb cb nb cap sn F w qv2 (.slice (some ⟨ge2, 0, none⟩) (ent.length + 1) cape2) w6 nn) := hNN
            clear hnlt hNN HO6 HC6 HL6 hs6 HO HNw HOn hs2 hb2
            go_wp2_with fail
            go_roundw
            case rel => exact ⟨nn, HN2.out⟩
            case measure => exact Nat.lt_of_le_of_lt (lst_le HN2.out) (by rw [← HWp.out]; exact HN1.out)
        · skip
          have hxx : ∀ u ∈ q, C.bar ≤ u.v := fun u hu => Int.le_trans (Int.not_lt.1 hb) (hL.sys.heap.top u hu)
          have db : decide ((qa q 0).v < C.bar) = false := by rw [decide_eq_false_iff_not]; exact hb
          clear QRq
          have HL1 : Hid _ := hL
          have HXx : Hid (∀ u ∈ q, C.bar ≤ u.v) := hxx
          have hR0 := fun n => (Rs.first hL.inv hL.sys (⟨hL.er, hL.esep, hL.qnew, hL.fnew, hL.chg⟩ : Frm base tb cb nb F w ent F2 _ _ wr)).idle (Chg.drewN (fun _ => False) wr n)
          have HR0 : Hid _ := hR0
          have HWg : Hid (ent.length ≤ 20000) := by have := hL.wgt; show ent.length ≤ 20000; omega
          have hentlen : ent.length < 100000 := by have := HWg.out; omega
          clear hL hR0 hxx HMin HWt
          go_wp2_with fail
          go_quiet (exact Calls.quiet_of_same (HBar _))
          go_wp2_with fail
          have HR1 := HR0.out nq
          have HRH : Hid _ := HR1
          clear HR1 HR0 HBar
          go_loopw [23] (fun kv w2 => ∃ k : Nat, k ≤ ent.length ∧ kv = .int .i64 ((k : Int) - 1) ∧ Rs C h vals tb cb nb cap F w q ent tr b F2 (.slice (some ⟨g, 0, none⟩) q.length cc) (.slice (some ⟨ge, 0, none⟩) ent.length cape) k w2) (fun kv _ => (intOf kv + 1).toNat)
          case atStart => exact ⟨ent.length, Nat.le_refl _, by go_num, HRH.out⟩
          case round =>
            clear HRH
            obtain ⟨k, hk, rfl, hRs⟩ := hrel
            have hRs2 := hRs
            obtain ⟨sm2, sn2, hfr, hys, hfm⟩ := hRs
            obtain ⟨M2, hT2, hM2⟩ := hys.mem
            have tsf := hT2.softt
            by_cases hk0 : k = 0
            · subst hk0
              have HR2 : Hid _ := hRs2
              obtain ⟨M0', hT0', _⟩ := HY.out.mem
              have hnt : ¬ (tb = nb ∨ F tb) := by
                rintro (e | e)
                · exact hT0'.tbn e
                · exact HY.out.ft e
              have q5 := (hfm.chg.cell (p := ⟨tb, 5, none⟩) hT0'.ltt hnt).trans HT5c.out
              have q6 := (hfm.chg.cell (p := ⟨tb, 6, none⟩) hT0'.ltt hnt).trans HT6c.out
              clear hRs2 hfr hys hfm hT2 hM2 hT0' hnt
              go_wp2_with fail
              go_region
              all_goals
                go_wp2_with fail
                go_end0
                exact Rs.fin HR2.out HL1.out.inv HL1.out.ents o HXx.out _ _ 1
            · obtain ⟨k1, hk1⟩ : ∃ k1, k = k1 + 1 := ⟨k - 1, by omega⟩
              subst hk1
              have hkv : ((k1 + 1 : Nat) : Int) - 1 = (k1 : Int) := by omega
              have hk1l : k1 < ent.length := by omega
              have hk1i : (k1 : Int) < (ent.length : Int) := by omega
              have hk10 : (0 : Int) ≤ (k1 : Int) := by omega
              have hek := ea_get hk1l
              have x0 := hfm.er.cellAt (k1 * 3 + 0) (by omega)
              rw [erow_at ent k1 0 hk1l (by decide), Nat.add_zero] at x0
              have x1 := hfm.er.cellAt (k1 * 3 + 1) (by omega)
              rw [erow_at ent k1 1 hk1l (by decide)] at x1
              have x2 := hfm.er.cellAt (k1 * 3 + 2) (by omega)
              rw [erow_at ent k1 2 hk1l (by decide)] at x2
              simp only [ec] at x0 x1 x2
              generalize ea ent k1 = e at hek x0 x1 x2
              obtain ⟨en1, enN⟩ := HL1.out.ents.ein e (List.mem_of_getElem? hek)
              rw [hkv]
              have HRs : Hid _ := hRs2
              clear hRs2 hfr hys hfm hT2 hM2 tsf hkv
              go_wp2_with fail
              refine gen_world (P := fun W => Calls _ _ _ W _) (fun W => Rs C h vals tb cb nb cap F w q ent tr b F2 (.slice (some ⟨g, 0, none⟩) q.length cc) (.slice (some ⟨ge, 0, none⟩) ent.length cape) (k1 + 1) W ∧ Box3 W wr.heap.size e ∧ wr.heap.size ≠ nb) ⟨Rs.idle HRs.out (put3_idle wr e), put3_box wr _ e rfl, by obtain ⟨_, _, _, yy, _⟩ := HRs.out; obtain ⟨_, hTT, _⟩ := yy.mem; have := hTT.ltn; omega⟩ ?_
              rintro W ⟨hRW, hBx, hHn⟩
              clear x0 x1 x2 HRs
              generalize wr.heap.size = H at hBx hHn ⊢
              obtain ⟨sm3, sn3, hfr, hys, hfm⟩ := hRW
              obtain ⟨M3, hT3, hM3⟩ := hys.mem
              have hrg := fun i (hi : i < h.cnt e.n) => hfr.range hvals hext e.n i en1 enN hi
              obtain ⟨xs, hxs⟩ : ∃ xs : Nat → Int, xs = fun i => if i < h.cnt e.n then sm3 e.n i else 0 := ⟨_, rfl⟩
              have hxr : ∀ i, 0 ≤ xs i ∧ xs i ≤ 510 := fun i => by
                rw [hxs]
                dsimp only
                split
                · exact hrg i (by assumption)
                · omega
              have hmnr : ∀ k, Small (mn xs k) := fun k => by
                obtain ⟨j, _, _, hj⟩ := (mn_min xs k).2
                rw [hj]
                have := hxr j
                exact small_of (by omega) (by omega)
              have hmneq : mn xs (h.cnt e.n - 1) = mn (sm3 e.n) (h.cnt e.n - 1) := by
                have hc1 := o.cnt1 e.n en1 enN
                exact mn_congr xs (sm3 e.n) _ (fun i hi => by rw [hxs]; dsimp only; rw [if_pos (by omega)])
              have HSm := summed_walk W base tb cb nb h.N cap e.n (h.cnt e.n) M3 xs hT3 enN (hM3.count e.n en1 enN) (o.cnt1 e.n en1 enN) (o.cnt8 e.n en1 enN) (fun i hi => by rw [hxs]; dsimp only; rw [if_pos hi]; exact hM3.sums e.n i en1 enN hi) (fun i => by have := hxr i; exact small_of (by omega) (by omega)) hmnr
              rw [hmneq] at HSm
              have HMx : Hid (∀ k, Small (mn xs k)) := hmnr
              refine (node_walk W base tb cb nb h.N cap e.n M3 hT3 enN).mono ?_
              rintro e' w' ⟨rfl, hw'⟩
              have hw' := hw'.symm
              subst hw'
              have HFr : Hid _ := hfr
              have HYs : Hid _ := hys
              have HFm : Hid _ := hfm
              have HM3 : Hid _ := hM3
              clear hfr hys hfm hT3 hM3 hrg hxr hmnr hxs
              go_wp2_with fail
              refine HSm.mono ?_
              rintro e' w3 ⟨rfl, hT4, hc4⟩
              have hM4 := HM3.out.setNode o e.n (mn (sm3 e.n) (h.cnt e.n - 1))
              have y4 := HYs.out.nodes hT4 hM4 hc4
              have f4 := HFm.out.nodes hc4
              have hB4 := hBx.chg hc4 hHn
              have a1 := hB4.c1
              clear HSm hBx hc4
              rcases Nat.eq_zero_or_pos k1 with hk10' | hkp
              · subst hk10'
                have hhd := HL1.out.ents.head
                rw [hek] at hhd
                have hee : e = ⟨h.root, 0, 0⟩ := Option.some.inj hhd
                have hRn : Rs C h vals tb cb nb cap F w q ent tr b F2 (.slice (some ⟨g, 0, none⟩) q.length cc) (.slice (some ⟨ge, 0, none⟩) ent.length cape) 0 w3 := ⟨sm3, _, HFr.out.step HL1.out.ents o hek (.inl ⟨rfl, rfl⟩), y4, f4⟩
                have HRn : Hid _ := hRn
                have hab : e.above = 0 := by rw [hee]
                rw [hab] at a1
                clear hRn y4 f4 hB4 hT4 hM4 hhd hee hab
                go_wp2_with fail
                go_roundw
                case rel => exact ⟨0, Nat.zero_le _, by go_num, HRn.out⟩
                case measure => simp [intOf]
              · obtain ⟨kp, ep, q1', q2', q3', q4', q5', q6'⟩ := HL1.out.ents.par k1 e hek hkp
                have hab := HL1.out.ents.ein ep (List.mem_of_getElem? q2')
                rw [q3'] at hab
                obtain ⟨_, _, c3', c4', _⟩ := o.kids e.above e.i hab.1 hab.2 q5' q4'
                rw [q6'] at c3' c4'
                have h8' := o.cnt8 e.above hab.1 hab.2
                have hc1' := o.cnt1 e.n en1 enN
                have hTd := hT4.drew
                have HNd := node_walk w3.drew base tb cb nb h.N cap e.above _ hTd hab.2
                have HSc := setChild_walk w3.drew base tb cb nb h.N cap e.above e.i e.n (h.cnt e.n) _ ((h.s e.above (e.i + 1) : Int) - 1) (fl (up1 sn3 e.n (mn (sm3 e.n) (h.cnt e.n - 1)) e.n)) hTd hab.2 (by omega) (hM4.owed e.above hab.1 hab.2) enN (hM4.fair o e.n en1 enN) (by rw [hM4.keys e.n (h.cnt e.n - 1) en1 enN (by omega), show h.cnt e.n - 1 + 1 = h.cnt e.n by omega, c4']) (hM4.sum e.n en1 enN)
                have hne : ((e.above : Int) == 0) = false := by simp; omega
                have hBd := hB4.chg (Chg.drew (fun _ => False) _) id
                have hBk : ∀ w', Box3 w' H e → w'.cell? ⟨H, 1, none⟩ = some (.int .i32 e.above) ∧ w'.cell? ⟨H, 2, none⟩ = some (.int .i32 e.i) ∧ w'.cell? ⟨H, 0, none⟩ = some (.int .i32 e.n) := fun w' hb => ⟨hb.c1, hb.c2, hb.c0⟩
                have HBk : Hid _ := hBk
                have HBd : Hid (Box3 w3.drew H e) := hBd
                have HY4 : Hid _ := y4.idle (Chg.drew (fun _ => False) w3) (fun _ e => e.elim)
                have HF4 : Hid _ := f4.idle (Chg.drew (fun _ => False) w3)
                have HM4 : Hid _ := hM4
                have hei0 : (0 : Int) ≤ (e.i : Int) := by omega
                have hei8 : (e.i : Int) < 8 := by omega
                have hwe : IntKind.i64.wrap (e.i : Int) = (e.i : Int) := by rw [IntKind.wrap_i64]; omega
                have HPar : Hid (h.ref e.above e.i = e.n ∧ e.i < h.cnt e.above ∧ 1 ≤ e.above ∧ e.above < h.N) := ⟨q6', q5', hab⟩
                clear y4 f4 hB4 hT4 hM4 hTd hBd hBk
                go_wp2_with fail
                refine wp_region_held_drew (S := fun w' => w'.cell? ⟨H, 1, none⟩ = some (.int .i32 e.above) ∧ w'.cell? ⟨H, 2, none⟩ = some (.int .i32 e.i) ∧ w'.cell? ⟨H, 0, none⟩ = some (.int .i32 e.n)) (by kernel_rfl) (HBk.out _ HBd.out) (fun hHeld => ?_)
                generalize w3.drew = V3 at HNd HSc HBd HY4 HF4 hHeld ⊢
                refine takeH (i := 0) (v := .pointer (some ⟨tb, 0, none⟩)) (some 177) rfl rfl (by kernel_rfl) (by kernel_rfl) (by kernel_rfl) (fun _ _ _ h => h) (Or.inl ⟨by rfl, by intro w hSw; (try dsimp only at hSw); go_simp; try rfl⟩) hHeld ?_
                simp only [Act.put, List.setIfInBounds_toArray, List.set_cons_zero, List.set_cons_succ]
                refine takeH (i := 1) (v := .pointer (some ⟨tb, 0, none⟩)) (some 178) rfl rfl (by kernel_rfl) (by kernel_rfl) (by kernel_rfl) (fun _ _ _ h => h) (Or.inl ⟨by rfl, by intro w hSw; (try dsimp only at hSw); go_simp; try rfl⟩) hHeld ?_
                simp only [Act.put, List.setIfInBounds_toArray, List.set_cons_zero, List.set_cons_succ]
                refine takeH (i := 2) (v := .pointer (some ⟨H, 1, none⟩)) (some 179) rfl rfl (by kernel_rfl) (by kernel_rfl) (by kernel_rfl) (fun _ _ _ h => h) (Or.inl ⟨by rfl, by intro w hSw; (try dsimp only at hSw); go_simp; try rfl⟩) hHeld ?_
                simp only [Act.put, List.setIfInBounds_toArray, List.set_cons_zero, List.set_cons_succ]
                refine takeH (i := 3) (v := .int .i32 e.above) (some 180) rfl rfl (by kernel_rfl) (by kernel_rfl) (by kernel_rfl) (fun _ _ _ h => h) (Or.inl ⟨by rfl, by intro w hSw; (try dsimp only at hSw); go_simp; try rfl⟩) hHeld ?_
                simp only [Act.put, List.setIfInBounds_toArray, List.set_cons_zero, List.set_cons_succ]
                refine takeH (i := 5) (v := .pointer (some ⟨H, 2, none⟩)) (some 182) rfl rfl (by kernel_rfl) (by kernel_rfl) (by kernel_rfl) (fun _ _ _ h => h) (Or.inl ⟨by rfl, by intro w hSw; (try dsimp only at hSw); go_simp; try rfl⟩) hHeld ?_
                simp only [Act.put, List.setIfInBounds_toArray, List.set_cons_zero, List.set_cons_succ]
                refine takeH (i := 6) (v := .int .i32 e.i) (some 183) rfl rfl (by kernel_rfl) (by kernel_rfl) (by kernel_rfl) (fun _ _ _ h => h) (Or.inl ⟨by rfl, by intro w hSw; (try dsimp only at hSw); go_simp; try rfl⟩) hHeld ?_
                simp only [Act.put, List.setIfInBounds_toArray, List.set_cons_zero, List.set_cons_succ]
                refine takeH (i := 7) (v := .int .i64 e.i) (some 184) rfl rfl (by kernel_rfl) (by kernel_rfl) (by kernel_rfl) (fun _ _ _ h => h) (Or.inl ⟨by rfl, by intro w hSw; (try dsimp only at hSw); go_simp; try rfl⟩) hHeld ?_
                simp only [Act.put, List.setIfInBounds_toArray, List.set_cons_zero, List.set_cons_succ]
                refine takeH (i := 8) (v := .pointer (some ⟨H, 0, none⟩)) (some 185) rfl rfl (by kernel_rfl) (by kernel_rfl) (by kernel_rfl) (fun _ _ _ h => h) (Or.inl ⟨by rfl, by intro w hSw; (try dsimp only at hSw); go_simp; try rfl⟩) hHeld ?_
                simp only [Act.put, List.setIfInBounds_toArray, List.set_cons_zero, List.set_cons_succ]
                refine takeH (i := 9) (v := .int .i32 e.n) (some 186) rfl rfl (by kernel_rfl) (by kernel_rfl) (by kernel_rfl) (fun _ _ _ h => h) (Or.inl ⟨by rfl, by intro w hSw; (try dsimp only at hSw); go_simp; try rfl⟩) hHeld ?_
                simp only [Act.put, List.setIfInBounds_toArray, List.set_cons_zero, List.set_cons_succ]
                refine wpAnyH_ready (rs := [4]) (by kernel_rfl) (by simp) ?_
                refine AllReadyH.cons rfl (fun K hK => ?_) AllReadyH.nil
                go_simp
                go_wp2_with (refine HNd.mono ?_; rintro e' w' ⟨rfl, hw'⟩; have hw' := hw'.symm; subst hw')
                refine hK.out _ _ hHeld (fun hHeld => ?_)
                clear hK K
                refine wpAnyH_ready (rs := [10]) (by kernel_rfl) (by simp) ?_
                refine AllReadyH.cons rfl (fun K hK => ?_) AllReadyH.nil
                go_simp
                refine HSc.mono ?_
                rintro e' w4 ⟨z, rfl, hT5, hc5⟩
                dsimp only
                have HT5 : Hid _ := hT5
                have HC5 : Hid _ := hc5
                have HB5 : Hid (Box3 w4 H e) := HBd.out.chg hc5 hHn
                clear hT5 hc5
                refine hK.out _ _ (HBk.out _ HB5.out) (fun hHeld => ?_)
                clear hK K hHeld
                refine wpAnyH_done (by kernel_rfl) ?_ _
                have hRn : Rs C h vals tb cb nb cap F w q ent tr b F2 (.slice (some ⟨g, 0, none⟩) q.length cc) (.slice (some ⟨ge, 0, none⟩) ent.length cape) k1 w4 := by
                  obtain ⟨r1, r2, r3, r4⟩ := HPar.out
                  have hM5 := HM4.out.setChild o e.above e.i r3 r4 r2 (mn (sm3 e.n) (h.cnt e.n - 1)) z
                  rw [r1] at hM5
                  have hT5 := HT5.out
                  have hup : up1 sn3 e.n (mn (sm3 e.n) (h.cnt e.n - 1)) e.n = mn (sm3 e.n) (h.cnt e.n - 1) := by unfold up1; rw [if_pos rfl]
                  rw [hup] at hT5
                  exact ⟨_, _, HFr.out.step HL1.out.ents o hek (.inr ⟨hkp, rfl⟩), HY4.out.nodes hT5 hM5 HC5.out, HF4.out.nodes HC5.out⟩
                have HRn : Hid _ := hRn
                clear hRn HT5 HC5 HB5
                go_wp2_with fail
                go_roundw
                case rel => exact ⟨k1, by omega, by go_num, HRn.out⟩
                case measure => simp [intOf]
      · skip
        have hq00 : q.length = 0 := by omega
        have hxx : ∀ u ∈ q, C.bar ≤ u.v := fun u hu => by rw [List.length_eq_zero_iff.1 hq00] at hu; cases hu
        have dn : decide (0 < q.length) = false := by rw [decide_eq_false_iff_not]; exact hn
        clear hn hq00
        have HL1 : Hid _ := hL
        have HXx : Hid (∀ u ∈ q, C.bar ≤ u.v) := hxx
        have hR0 := fun n => (Rs.first hL.inv hL.sys (⟨hL.er, hL.esep, hL.qnew, hL.fnew, hL.chg⟩ : Frm base tb cb nb F w ent F2 _ _ wr)).idle (Chg.drewN (fun _ => False) wr n)
        have HR0 : Hid _ := hR0
        have HWg : Hid (ent.length ≤ 20000) := by have := hL.wgt; show ent.length ≤ 20000; omega
        have hentlen : ent.length < 100000 := by have := HWg.out; omega
        clear hL hR0 hxx HMin HWt
        go_wp2_with fail
        go_quiet (exact Calls.quiet_of_same (HBar _))
        go_wp2_with fail
        have HR1 := HR0.out nq
        have HRH : Hid _ := HR1
        clear HR1 HR0 HBar
        go_loopw [23] (fun kv w2 => ∃ k : Nat, k ≤ ent.length ∧ kv = .int .i64 ((k : Int) - 1) ∧ Rs C h vals tb cb nb cap F w q ent tr b F2 (.slice ac q.length cc) (.slice (some ⟨ge, 0, none⟩) ent.length cape) k w2) (fun kv _ => (intOf kv + 1).toNat)
        case atStart => exact ⟨ent.length, Nat.le_refl _, by go_num, HRH.out⟩
        case round =>
          clear HRH
          obtain ⟨k, hk, rfl, hRs⟩ := hrel
          have hRs2 := hRs
          obtain ⟨sm2, sn2, hfr, hys, hfm⟩ := hRs
          obtain ⟨M2, hT2, hM2⟩ := hys.mem
          have tsf := hT2.softt
          by_cases hk0 : k = 0
          · subst hk0
            have HR2 : Hid _ := hRs2
            obtain ⟨M0', hT0', _⟩ := HY.out.mem
            have hnt : ¬ (tb = nb ∨ F tb) := by
              rintro (e | e)
              · exact hT0'.tbn e
              · exact HY.out.ft e
            have q5 := (hfm.chg.cell (p := ⟨tb, 5, none⟩) hT0'.ltt hnt).trans HT5c.out
            have q6 := (hfm.chg.cell (p := ⟨tb, 6, none⟩) hT0'.ltt hnt).trans HT6c.out
            clear hRs2 hfr hys hfm hT2 hM2 hT0' hnt
            go_wp2_with fail
            go_region
            all_goals
              go_wp2_with fail
              go_end0
              exact Rs.fin HR2.out HL1.out.inv HL1.out.ents o HXx.out _ _ 1
          · obtain ⟨k1, hk1⟩ : ∃ k1, k = k1 + 1 := ⟨k - 1, by omega⟩
            subst hk1
            have hkv : ((k1 + 1 : Nat) : Int) - 1 = (k1 : Int) := by omega
            have hk1l : k1 < ent.length := by omega
            have hk1i : (k1 : Int) < (ent.length : Int) := by omega
            have hk10 : (0 : Int) ≤ (k1 : Int) := by omega
            have hek := ea_get hk1l
            have x0 := hfm.er.cellAt (k1 * 3 + 0) (by omega)
            rw [erow_at ent k1 0 hk1l (by decide), Nat.add_zero] at x0
            have x1 := hfm.er.cellAt (k1 * 3 + 1) (by omega)
            rw [erow_at ent k1 1 hk1l (by decide)] at x1
            have x2 := hfm.er.cellAt (k1 * 3 + 2) (by omega)
            rw [erow_at ent k1 2 hk1l (by decide)] at x2
            simp only [ec] at x0 x1 x2
            generalize ea ent k1 = e at hek x0 x1 x2
            obtain ⟨en1, enN⟩ := HL1.out.ents.ein e (List.mem_of_getElem? hek)
            rw [hkv]
            have HRs : Hid _ := hRs2
            clear hRs2 hfr hys hfm hT2 hM2 tsf hkv
            go_wp2_with fail
            refine gen_world (P := fun W => Calls _ _ _ W _) (fun W => Rs C h vals tb cb nb cap F w q ent tr b F2 (.slice ac q.length cc) (.slice (some ⟨ge, 0, none⟩) ent.length cape) (k1 + 1) W ∧ Box3 W wr.heap.size e ∧ wr.heap.size ≠ nb) ⟨Rs.idle HRs.out (put3_idle wr e), put3_box wr _ e rfl, by obtain ⟨_, _, _, yy, _⟩ := HRs.out; obtain ⟨_, hTT, _⟩ := yy.mem; have := hTT.ltn; omega⟩ ?_
            rintro W ⟨hRW, hBx, hHn⟩
            clear x0 x1 x2 HRs
            generalize wr.heap.size = H at hBx hHn ⊢
            obtain ⟨sm3, sn3, hfr, hys, hfm⟩ := hRW
            obtain ⟨M3, hT3, hM3⟩ := hys.mem
            have hrg := fun i (hi : i < h.cnt e.n) => hfr.range hvals hext e.n i en1 enN hi
            obtain ⟨xs, hxs⟩ : ∃ xs : Nat → Int, xs = fun i => if i < h.cnt e.n then sm3 e.n i else 0 := ⟨_, rfl⟩
            have hxr : ∀ i, 0 ≤ xs i ∧ xs i ≤ 510 := fun i => by
              rw [hxs]
              dsimp only
              split
              · exact hrg i (by assumption)
              · omega
            have hmnr : ∀ k, Small (mn xs k) := fun k => by
              obtain ⟨j, _, _, hj⟩ := (mn_min xs k).2
              rw [hj]
              have := hxr j
              exact small_of (by omega) (by omega)
            have hmneq : mn xs (h.cnt e.n - 1) = mn (sm3 e.n) (h.cnt e.n - 1) := by
              have hc1 := o.cnt1 e.n en1 enN
              exact mn_congr xs (sm3 e.n) _ (fun i hi => by rw [hxs]; dsimp only; rw [if_pos (by omega)])
            have HSm := summed_walk W base tb cb nb h.N cap e.n (h.cnt e.n) M3 xs hT3 enN (hM3.count e.n en1 enN) (o.cnt1 e.n en1 enN) (o.cnt8 e.n en1 enN) (fun i hi => by rw [hxs]; dsimp only; rw [if_pos hi]; exact hM3.sums e.n i en1 enN hi) (fun i => by have := hxr i; exact small_of (by omega) (by omega)) hmnr
            rw [hmneq] at HSm
            have HMx : Hid (∀ k, Small (mn xs k)) := hmnr
            refine (node_walk W base tb cb nb h.N cap e.n M3 hT3 enN).mono ?_
            rintro e' w' ⟨rfl, hw'⟩
            have hw' := hw'.symm
            subst hw'
            have HFr : Hid _ := hfr
            have HYs : Hid _ := hys
            have HFm : Hid _ := hfm
            have HM3 : Hid _ := hM3
            clear hfr hys hfm hT3 hM3 hrg hxr hmnr hxs
            go_wp2_with fail
            refine HSm.mono ?_
            rintro e' w3 ⟨rfl, hT4, hc4⟩
            have hM4 := HM3.out.setNode o e.n (mn (sm3 e.n) (h.cnt e.n - 1))
            have y4 := HYs.out.nodes hT4 hM4 hc4
            have f4 := HFm.out.nodes hc4
            have hB4 := hBx.chg hc4 hHn
            have a1 := hB4.c1
            clear HSm hBx hc4
            rcases Nat.eq_zero_or_pos k1 with hk10' | hkp
            · subst hk10'
              have hhd := HL1.out.ents.head
              rw [hek] at hhd
              have hee : e = ⟨h.root, 0, 0⟩ := Option.some.inj hhd
              have hRn : Rs C h vals tb cb nb cap F w q ent tr b F2 (.slice ac q.length cc) (.slice (some ⟨ge, 0, none⟩) ent.length cape) 0 w3 := ⟨sm3, _, HFr.out.step HL1.out.ents o hek (.inl ⟨rfl, rfl⟩), y4, f4⟩
              have HRn : Hid _ := hRn
              have hab : e.above = 0 := by rw [hee]
              rw [hab] at a1
              clear hRn y4 f4 hB4 hT4 hM4 hhd hee hab
              go_wp2_with fail
              go_roundw
              case rel => exact ⟨0, Nat.zero_le _, by go_num, HRn.out⟩
              case measure => simp [intOf]
            · obtain ⟨kp, ep, q1', q2', q3', q4', q5', q6'⟩ := HL1.out.ents.par k1 e hek hkp
              have hab := HL1.out.ents.ein ep (List.mem_of_getElem? q2')
              rw [q3'] at hab
              obtain ⟨_, _, c3', c4', _⟩ := o.kids e.above e.i hab.1 hab.2 q5' q4'
              rw [q6'] at c3' c4'
              have h8' := o.cnt8 e.above hab.1 hab.2
              have hc1' := o.cnt1 e.n en1 enN
              have hTd := hT4.drew
              have HNd := node_walk w3.drew base tb cb nb h.N cap e.above _ hTd hab.2
              have HSc := setChild_walk w3.drew base tb cb nb h.N cap e.above e.i e.n (h.cnt e.n) _ ((h.s e.above (e.i + 1) : Int) - 1) (fl (up1 sn3 e.n (mn (sm3 e.n) (h.cnt e.n - 1)) e.n)) hTd hab.2 (by omega) (hM4.owed e.above hab.1 hab.2) enN (hM4.fair o e.n en1 enN) (by rw [hM4.keys e.n (h.cnt e.n - 1) en1 enN (by omega), show h.cnt e.n - 1 + 1 = h.cnt e.n by omega, c4']) (hM4.sum e.n en1 enN)
              have hne : ((e.above : Int) == 0) = false := by simp; omega
              have hBd := hB4.chg (Chg.drew (fun _ => False) _) id
              have hBk : ∀ w', Box3 w' H e → w'.cell? ⟨H, 1, none⟩ = some (.int .i32 e.above) ∧ w'.cell? ⟨H, 2, none⟩ = some (.int .i32 e.i) ∧ w'.cell? ⟨H, 0, none⟩ = some (.int .i32 e.n) := fun w' hb => ⟨hb.c1, hb.c2, hb.c0⟩
              have HBk : Hid _ := hBk
              have HBd : Hid (Box3 w3.drew H e) := hBd
              have HY4 : Hid _ := y4.idle (Chg.drew (fun _ => False) w3) (fun _ e => e.elim)
              have HF4 : Hid _ := f4.idle (Chg.drew (fun _ => False) w3)
              have HM4 : Hid _ := hM4
              have hei0 : (0 : Int) ≤ (e.i : Int) := by omega
              have hei8 : (e.i : Int) < 8 := by omega
              have hwe : IntKind.i64.wrap (e.i : Int) = (e.i : Int) := by rw [IntKind.wrap_i64]; omega
              have HPar : Hid (h.ref e.above e.i = e.n ∧ e.i < h.cnt e.above ∧ 1 ≤ e.above ∧ e.above < h.N) := ⟨q6', q5', hab⟩
              clear y4 f4 hB4 hT4 hM4 hTd hBd hBk
              go_wp2_with fail
              refine wp_region_held_drew (S := fun w' => w'.cell? ⟨H, 1, none⟩ = some (.int .i32 e.above) ∧ w'.cell? ⟨H, 2, none⟩ = some (.int .i32 e.i) ∧ w'.cell? ⟨H, 0, none⟩ = some (.int .i32 e.n)) (by kernel_rfl) (HBk.out _ HBd.out) (fun hHeld => ?_)
              generalize w3.drew = V3 at HNd HSc HBd HY4 HF4 hHeld ⊢
              refine takeH (i := 0) (v := .pointer (some ⟨tb, 0, none⟩)) (some 177) rfl rfl (by kernel_rfl) (by kernel_rfl) (by kernel_rfl) (fun _ _ _ h => h) (Or.inl ⟨by rfl, by intro w hSw; (try dsimp only at hSw); go_simp; try rfl⟩) hHeld ?_
              simp only [Act.put, List.setIfInBounds_toArray, List.set_cons_zero, List.set_cons_succ]
              refine takeH (i := 1) (v := .pointer (some ⟨tb, 0, none⟩)) (some 178) rfl rfl (by kernel_rfl) (by kernel_rfl) (by kernel_rfl) (fun _ _ _ h => h) (Or.inl ⟨by rfl, by intro w hSw; (try dsimp only at hSw); go_simp; try rfl⟩) hHeld ?_
              simp only [Act.put, List.setIfInBounds_toArray, List.set_cons_zero, List.set_cons_succ]
              refine takeH (i := 2) (v := .pointer (some ⟨H, 1, none⟩)) (some 179) rfl rfl (by kernel_rfl) (by kernel_rfl) (by kernel_rfl) (fun _ _ _ h => h) (Or.inl ⟨by rfl, by intro w hSw; (try dsimp only at hSw); go_simp; try rfl⟩) hHeld ?_
              simp only [Act.put, List.setIfInBounds_toArray, List.set_cons_zero, List.set_cons_succ]
              refine takeH (i := 3) (v := .int .i32 e.above) (some 180) rfl rfl (by kernel_rfl) (by kernel_rfl) (by kernel_rfl) (fun _ _ _ h => h) (Or.inl ⟨by rfl, by intro w hSw; (try dsimp only at hSw); go_simp; try rfl⟩) hHeld ?_
              simp only [Act.put, List.setIfInBounds_toArray, List.set_cons_zero, List.set_cons_succ]
              refine takeH (i := 5) (v := .pointer (some ⟨H, 2, none⟩)) (some 182) rfl rfl (by kernel_rfl) (by kernel_rfl) (by kernel_rfl) (fun _ _ _ h => h) (Or.inl ⟨by rfl, by intro w hSw; (try dsimp only at hSw); go_simp; try rfl⟩) hHeld ?_
              simp only [Act.put, List.setIfInBounds_toArray, List.set_cons_zero, List.set_cons_succ]
              refine takeH (i := 6) (v := .int .i32 e.i) (some 183) rfl rfl (by kernel_rfl) (by kernel_rfl) (by kernel_rfl) (fun _ _ _ h => h) (Or.inl ⟨by rfl, by intro w hSw; (try dsimp only at hSw); go_simp; try rfl⟩) hHeld ?_
              simp only [Act.put, List.setIfInBounds_toArray, List.set_cons_zero, List.set_cons_succ]
              refine takeH (i := 7) (v := .int .i64 e.i) (some 184) rfl rfl (by kernel_rfl) (by kernel_rfl) (by kernel_rfl) (fun _ _ _ h => h) (Or.inl ⟨by rfl, by intro w hSw; (try dsimp only at hSw); go_simp; try rfl⟩) hHeld ?_
              simp only [Act.put, List.setIfInBounds_toArray, List.set_cons_zero, List.set_cons_succ]
              refine takeH (i := 8) (v := .pointer (some ⟨H, 0, none⟩)) (some 185) rfl rfl (by kernel_rfl) (by kernel_rfl) (by kernel_rfl) (fun _ _ _ h => h) (Or.inl ⟨by rfl, by intro w hSw; (try dsimp only at hSw); go_simp; try rfl⟩) hHeld ?_
              simp only [Act.put, List.setIfInBounds_toArray, List.set_cons_zero, List.set_cons_succ]
              refine takeH (i := 9) (v := .int .i32 e.n) (some 186) rfl rfl (by kernel_rfl) (by kernel_rfl) (by kernel_rfl) (fun _ _ _ h => h) (Or.inl ⟨by rfl, by intro w hSw; (try dsimp only at hSw); go_simp; try rfl⟩) hHeld ?_
              simp only [Act.put, List.setIfInBounds_toArray, List.set_cons_zero, List.set_cons_succ]
              refine wpAnyH_ready (rs := [4]) (by kernel_rfl) (by simp) ?_
              refine AllReadyH.cons rfl (fun K hK => ?_) AllReadyH.nil
              go_simp
              go_wp2_with (refine HNd.mono ?_; rintro e' w' ⟨rfl, hw'⟩; have hw' := hw'.symm; subst hw')
              refine hK.out _ _ hHeld (fun hHeld => ?_)
              clear hK K
              refine wpAnyH_ready (rs := [10]) (by kernel_rfl) (by simp) ?_
              refine AllReadyH.cons rfl (fun K hK => ?_) AllReadyH.nil
              go_simp
              refine HSc.mono ?_
              rintro e' w4 ⟨z, rfl, hT5, hc5⟩
              dsimp only
              have HT5 : Hid _ := hT5
              have HC5 : Hid _ := hc5
              have HB5 : Hid (Box3 w4 H e) := HBd.out.chg hc5 hHn
              clear hT5 hc5
              refine hK.out _ _ (HBk.out _ HB5.out) (fun hHeld => ?_)
              clear hK K hHeld
              refine wpAnyH_done (by kernel_rfl) ?_ _
              have hRn : Rs C h vals tb cb nb cap F w q ent tr b F2 (.slice ac q.length cc) (.slice (some ⟨ge, 0, none⟩) ent.length cape) k1 w4 := by
                obtain ⟨r1, r2, r3, r4⟩ := HPar.out
                have hM5 := HM4.out.setChild o e.above e.i r3 r4 r2 (mn (sm3 e.n) (h.cnt e.n - 1)) z
                rw [r1] at hM5
                have hT5 := HT5.out
                have hup : up1 sn3 e.n (mn (sm3 e.n) (h.cnt e.n - 1)) e.n = mn (sm3 e.n) (h.cnt e.n - 1) := by unfold up1; rw [if_pos rfl]
                rw [hup] at hT5
                exact ⟨_, _, HFr.out.step HL1.out.ents o hek (.inr ⟨hkp, rfl⟩), HY4.out.nodes hT5 hM5 HC5.out, HF4.out.nodes HC5.out⟩
              have HRn : Hid _ := hRn
              clear hRn HT5 HC5 HB5
              go_wp2_with fail
              go_roundw
              case rel => exact ⟨k1, by omega, by go_num, HRn.out⟩
              case measure => simp [intOf]
end Go.Proofs.Ybulkbuhe
