/-
  The walk of queueUp.
-/
import Derived.Test.YbulkbuheA7
import Derived.OwnWalk
namespace Go.Proofs.Ybulkbuhe
open Go.RowKit Fl
attribute [local go_sem] run_store_float setCell_drewN alloc_drewN

theorem info71 : (Yba.prog.info? 71).map (fun i => (i.zero, i.size, i.bytes)) = some (some (.agg #[.float .f64 0, .int .i32 0, .int .i32 0, .bool false]), 4, 24) := by kernel_rfl

def ua (u : Un) : Value := .agg #[.float .f64 (fl u.v), .int .i32 u.n, .int .i32 u.i, .bool u.again]
def uo (u : Un) : Obj := .cells #[.float .f64 (fl u.v), .int .i32 u.n, .int .i32 u.i, .bool u.again] 71

def QueuePost (base : Nat) (v : Value) (q : List Un) (u : Un) (w : World) (e : Ending) (w' : World) : Prop :=
  ∃ g cap q', e = .returned (.slice (some ⟨g, 0, none⟩) q'.length cap) ∧ QR w' base g cap q' ∧ Heap q' ∧ List.Perm q' (u :: q) ∧ Chg (fun k => v.ownBlock = some k) w w' ∧ (v.ownBlock = some g ∨ w.heap.size ≤ g)

/-- The box of the entry. -/
def Box (w : World) (b : Nat) (u : Un) : Prop := ∀ k, k < 4 → w.cell? ⟨b, k, none⟩ = some (uc u k)
theorem Box.chg {S : Nat → Prop} {w w' : World} {b : Nat} {u : Un} (h : Box w b u) (k : Chg S w w') (hn : ¬ S b) : Box w' b u := fun i hi => by
  have := h i hi
  rw [k.cell (p := ⟨b, i, none⟩) (World.block_lt_of_cell? w _ this) hn]; exact this
theorem Box.new (w : World) (u : Un) (b : Nat) (hb : b = w.heap.size) : Box (w.alloc (uo u)) b u := fun k hk => by
  subst hb
  unfold uo
  rw [World.cell?_alloc_new]
  match k, hk with
  | 0, _ => rfl
  | 1, _ => rfl
  | 2, _ => rfl
  | 3, _ => rfl

set_option maxHeartbeats 2000000 in
set_option maxRecDepth 100000 in
theorem queueUp_walk (w : World) (base : Nat) (v : Value) (q : List Un) (u : Un) (hv : w.ownsRow base 71 4 v q.length (qrow q)) (hh : Heap q) (hl : q.length < 100000) (hs : ∀ x ∈ q, Small x.v) (hu : Small u.v) (hb : base ≤ w.heap.size) :
    Calls Yba.prog 23 #[v, ua u] w (QueuePost base v q u w) := by
  obtain ⟨i0, hi, hz, hsz, hby⟩ := info_parts info71
  have own : ((w.alloc (uo u)).alloc (uo u)).ownsRow base 71 4 v q.length (qrow q) := (hv.alloc _).alloc _
  have news : ∀ j x, [uc u 0, uc u 1, uc u 2, uc u 3][j]? = some x → ((w.alloc (uo u)).alloc (uo u)).cell? ((⟨w.heap.size + 1, 0, none⟩ : Addr).add j) = some x := fun j x hj => by
    rw [show (⟨w.heap.size + 1, 0, none⟩ : Addr).add j = ⟨w.heap.size + 1, j, none⟩ by simp [Addr.add, eq_comm], show w.heap.size + 1 = (w.alloc (uo u)).heap.size by simp]
    unfold uo
    rw [World.cell?_alloc_new]
    simpa [uc] using hj
  have hone : ∀ x ∈ [uc u 0, uc u 1, uc u 2, uc u 3], x.oneCell' = true := fun x hx => by
    simp only [List.mem_cons, List.not_mem_nil, or_false] at hx
    rcases hx with rfl | rfl | rfl | rfl <;> rfl
  have hs2 : ((w.alloc (uo u)).alloc (uo u)).heap.size = w.heap.size + 2 := by simp
  have hb2 : base ≤ ((w.alloc (uo u)).alloc (uo u)).heap.size := by rw [hs2]; omega
  unfold ua
  go_enter Yba.func23, Yba.ntmps23
  go_wp2_with (at_builtin; go_loud (refine wpList_append_lies _ rfl (.tmp 7) (.tmp 9) 29 rfl base 71 i0 _ 4 24 Yba.underlying29 hi hz hsz hby rfl (by decide) v q.length (qrow q) rfl own ⟨w.heap.size + 1, 0, none⟩ 1 1 [uc u 0, uc u 1, uc u 2, uc u 3] rfl rfl news hone (by decide) (by unfold maxLen; omega) (by omega) hb2 (w.heap.size + 2) hs2 ?_); intro g cap w1 hown1 hgrow hlie hlt1)
  have k1 : Chg (fun k => v.ownBlock = some k) ((w.alloc (uo u)).alloc (uo u)) w1 := Chg.grown hgrow (fun k e => e)
  have hvlt : ∀ k, v.ownBlock = some k → k < w.heap.size := fun k e => (hv.lt k e).2
  have kw : Chg (fun k => v.ownBlock = some k) w w1 := ((Chg.alloc _ w (uo u)).trans (Chg.alloc _ _ (uo u)) (fun _ _ h => h)).trans k1 (fun _ _ h => h)
  have box1 : Box w1 w.heap.size u := ((Box.new w u _ rfl).chg (Chg.alloc (fun _ => False) _ (uo u)) id).chg k1 (fun e => Nat.lt_irrefl _ (hvlt _ e))
  have qr1 : QR w1 base g cap (q ++ [u]) := by unfold QR; rw [← qrow_append]; simpa using hown1
  have hgb : g ≠ w.heap.size := by
    rcases hlie with e | e
    · have := hvlt _ e; omega
    · omega
  have up1 := Up.start q u hh
  have HQ : Hid (∀ x ∈ q, Small x.v) := hs
  have HN : Hid (v.ownBlock = some g ∨ g = w.heap.size + 2) := hlie
  have HK : Hid (Chg (fun k => v.ownBlock = some k) w w1) := kw
  clear hv own news hone hs2 hb2 hown1 hgrow hlie k1 kw hi hz hsz hby hh hs hvlt
  go_loopw [5] (fun x wr => ∃ (i : Nat) (q' : List Un), x = .int .i64 i ∧ Up (q ++ [u]) q' i u ∧ q'.length = q.length + 1 ∧ QR wr base g cap q' ∧ Box wr w.heap.size u ∧ Chg (fun k => k = g) w1 wr) (fun x _ => (intOf x).toNat)
  case atStart => exact ⟨q.length, q ++ [u], by go_num, up1, by simp, qr1, box1, Chg.refl _ _⟩
  case round =>
    clear up1 qr1 box1
    obtain ⟨i, q', rfl, hup, hlen, hqr, hbox, hchg⟩ := hrel
    have hilt := hup.lt
    have g0 := hqr.at (j := i) (o := 0) hilt (by decide)
    have g1 := hqr.at (j := i) (o := 1) hilt (by decide)
    have g2 := hqr.at (j := i) (o := 2) hilt (by decide)
    have g3 := hqr.at (j := i) (o := 3) hilt (by decide)
    rw [Nat.add_zero] at g0
    have b0 := hbox 0 (by decide)
    have b1 := hbox 1 (by decide)
    have b2 := hbox 2 (by decide)
    have b3 := hbox 3 (by decide)
    simp only [uc] at g0 g1 g2 g3 b0 b1 b2 b3
    have sf := hqr.soft
    have hfin : (i = 0 ∨ (qa q' ((i - 1) / 2)).v ≤ u.v) → ∀ nq, QueuePost base v q u w (.returned (.slice (some ⟨g, 0, none⟩) (q.length + 1) cap)) (((((wr.setCell ⟨g, i * 4, none⟩ (.float .f64 (fl u.v))).setCell ⟨g, i * 4 + 1, none⟩ (.int .i32 u.n)).setCell ⟨g, i * 4 + 2, none⟩ (.int .i32 u.i)).setCell ⟨g, i * 4 + 3, none⟩ (.bool u.again)).drewN nq) := fun hc nq => by
      refine ⟨g, cap, q'.set i u, by rw [List.length_set, hlen], (hqr.set i u hilt).chg (Chg.drewN (fun _ => False) _ nq) id, hup.done hc, hup.perm.trans (List.perm_append_singleton _ _), ?_, ?_⟩
      · refine HK.out.trans ((hchg.trans (chg4 wr g _ _ _ _ _ _ _ _) (fun _ _ h => h)).trans (Chg.drewN _ _ nq) (fun _ _ h => h)) (fun k hk e => ?_)
        subst e
        rcases HN.out with e | e
        · exact e
        · omega
      · rcases HN.out with e | e
        · exact .inl e
        · exact .inr (by omega)
    by_cases h0 : i = 0
    · have d : decide (0 < i) = false := by rw [decide_eq_false_iff_not]; omega
      have HF : Hid _ := hfin (.inl h0) 0
      rw [World.drewN_zero] at HF
      clear hfin h0
      go_wp2_with fail
      go_ret
      exact HF.out
    · have d : decide (0 < i) = true := by rw [decide_eq_true_iff]; omega
      obtain ⟨p, hp⟩ : ∃ p, p = (i - 1) / 2 := ⟨_, rfl⟩
      have hpa : ((i : Int) - 1) / 2 = (p : Int) := by omega
      have hpb : ((i - 1 : Nat) : Int) / 2 = (p : Int) := by omega
      have hp0 : (0 : Int) ≤ (p : Int) := by omega
      have hpl : p < q'.length := by omega
      have hpl2 : (p : Int) < (q.length : Int) + 1 := by omega
      have p0 := hqr.at (j := p) (o := 0) hpl (by decide)
      have p1 := hqr.at (j := p) (o := 1) hpl (by decide)
      have p2 := hqr.at (j := p) (o := 2) hpl (by decide)
      have p3 := hqr.at (j := p) (o := 3) hpl (by decide)
      rw [Nat.add_zero] at p0
      simp only [uc] at p0 p1 p2 p3
      have hsm : Small (qa q' p).v := by
        have hm : qa q' p ∈ q'.set i u := by
          have := qa_mem (q'.set i u) p (by rw [List.length_set]; exact hpl)
          rwa [qa_set _ _ _ _ hilt, if_neg (by omega)] at this
        rcases List.mem_append.1 (hup.perm.mem_iff.1 hm) with h | h
        · exact HQ.out _ h
        · rw [List.mem_singleton.1 h]; exact hu
      have hcmp := fl_leq (qa q' p).v u.v hsm hu
      have HP : Hid (p = (i - 1) / 2) := hp
      have H0 : Hid (0 < i) := Nat.pos_of_ne_zero h0
      clear hp
      by_cases hc : (qa q' p).v ≤ u.v
      · have HF : Hid _ := hfin (.inr (by rw [← HP.out]; exact hc))
        have d2 : decide ((qa q' p).v ≤ u.v) = true := by rw [decide_eq_true_iff]; exact hc
        clear hfin h0
        go_wp2_with fail
        try rw [hpa]
        clear hpa hpb
        go_quiet (fail)
        go_wp2_with fail
        go_ret
        exact HF.out nq
      · have d2 : decide ((qa q' p).v ≤ u.v) = false := by rw [decide_eq_false_iff_not]; exact hc
        clear hfin h0
        go_wp2_with fail
        try rw [hpa]
        clear hpa hpb
        go_quiet (fail)
        go_wp2_with fail
        go_roundw
        case rel =>
          refine ⟨p, q'.set i (qa q' p), rfl, ?_, by rw [List.length_set]; exact hlen, (hqr.set i (qa q' p) hilt).chg (Chg.drewN (fun _ => False) _ nq) id, ?_, ?_⟩
          · have hs := hup.step H0.out (by rw [← HP.out]; omega)
            rw [← HP.out] at hs
            exact hs
          · exact (hbox.chg (chg4 wr g _ _ _ _ _ _ _ _) (fun e => hgb e.symm)).chg (Chg.drewN (fun _ => False) _ nq) id
          · exact (hchg.trans (chg4 wr g _ _ _ _ _ _ _ _) (fun _ _ h => h)).trans (Chg.drewN _ _ nq) (fun _ _ h => h)
        case measure =>
          have := HP.out
          have := H0.out
          simp [intOf]; omega
end Go.Proofs.Ybulkbuhe
