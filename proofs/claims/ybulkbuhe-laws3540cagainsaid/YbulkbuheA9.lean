/-
  The walk of takeLeast.
-/
import Derived.Test.YbulkbuheA8
import Derived.Laws.ResultCell
namespace Go.Proofs.Ybulkbuhe
open Go.RowKit Fl
attribute [local go_sem] run_store_float setCell_drewN alloc_drewN
attribute [-go_sem] World.setCell_alloc_at World.setCell_alloc_past

def TakePost (base g cap : Nat) (q : List Un) (w : World) (e : Ending) (w' : World) : Prop :=
  ∃ q', e = .returned (.tuple #[ua (qa q 0), .slice (some ⟨g, 0, none⟩) q'.length cap]) ∧ QR w' base g cap q' ∧ Heap q' ∧ List.Perm (qa q 0 :: q') q ∧ Chg (fun k => k = g) w w'

theorem QR.caps {w : World} {base g cap : Nat} {q : List Un} (h : QR w base g cap q) : q.length ≤ cap := by
  rcases h.2 with ⟨e, _⟩ | ⟨g', cap', cur, e, hb, hg, hc, _⟩
  · cases e
  · cases e; exact hc
theorem QR.drew {w : World} {base g cap : Nat} {q : List Un} (h : QR w base g cap q) : QR w.drew base g cap q := h.chg (Chg.drew (fun _ => False) _) id
theorem QR.alloc {w : World} {base g cap : Nat} {q : List Un} (h : QR w base g cap q) (o : Obj) : QR (w.alloc o) base g cap q := h.chg (Chg.alloc (fun _ => False) _ _) id
theorem QR.far {w : World} {base g cap : Nat} {q : List Un} (h : QR w base g cap q) (b i : Nat) (v : Value) (hb : b ≠ g) : QR (w.setCell ⟨b, i, none⟩ v) base g cap q := h.chg (Chg.setCell (S := fun k => k = b) _ _ _ rfl) (fun e => hb e.symm)
def S8 (w' : World) (g m : Nat) (q : List Un) : Prop := w'.cell? ⟨g, 0, none⟩ = some (.float .f64 (fl (qa q 0).v)) ∧ w'.cell? ⟨g, 1, none⟩ = some (.int .i32 (qa q 0).n) ∧ w'.cell? ⟨g, 2, none⟩ = some (.int .i32 (qa q 0).i) ∧ w'.cell? ⟨g, 3, none⟩ = some (.bool (qa q 0).again) ∧ w'.cell? ⟨g, m * 4, none⟩ = some (.float .f64 (fl (qa q m).v)) ∧ w'.cell? ⟨g, m * 4 + 1, none⟩ = some (.int .i32 (qa q m).n) ∧ w'.cell? ⟨g, m * 4 + 2, none⟩ = some (.int .i32 (qa q m).i) ∧ w'.cell? ⟨g, m * 4 + 3, none⟩ = some (.bool (qa q m).again)

/-- Behind the first row: the two boxes, the result's cell. -/
structure TK (w : World) (base g cap m : Nat) (q : List Un) (H b4 b5 : Nat) (W : World) : Prop where
  qr : QR W base g cap q
  x4 : Box W b4 (qa q 0)
  x5 : Box W b5 (qa q m)
  r0 : W.cell? ⟨H, 0, none⟩ = some (.float .f64 0)
  r1 : W.cell? ⟨H, 1, none⟩ = some (.int .i32 0)
  r2 : W.cell? ⟨H, 2, none⟩ = some (.int .i32 0)
  r3 : W.cell? ⟨H, 3, none⟩ = some (.bool false)
  soft : ∀ k, W.frozen? ⟨H, k, none⟩ = false
  n4 : b4 ≠ g
  n5 : b5 ≠ g
  nH : H ≠ g
  n4H : b4 ≠ H
  n5H : b5 ≠ H
  old : w.heap.size ≤ H
  chg : Chg (fun _ => False) w W
theorem gen_world {P : World → Prop} {W : World} (F : World → Prop) (h1 : F W) (h2 : ∀ W', F W' → P W') : P W := h2 W h1
def zo : Obj := .cells #[.float .f64 0, .int .i32 0, .int .i32 0, .bool false] 71
def put4 (w : World) (b : Nat) (u : Un) : World := (((w.setCell ⟨b, 0, none⟩ (.float .f64 (fl u.v))).setCell ⟨b, 1, none⟩ (.int .i32 u.n)).setCell ⟨b, 2, none⟩ (.int .i32 u.i)).setCell ⟨b, 3, none⟩ (.bool u.again)
theorem put4_chg (w : World) (b : Nat) (u : Un) : Chg (fun k => k = b) w (put4 w b u) := chg4 w b 0 1 2 3 _ _ _ _
theorem put4_soft (w : World) (b : Nat) (u : Un) (a : Addr) : (put4 w b u).frozen? a = w.frozen? a := by
  unfold put4
  simp only [World.frozen?_setCell]
theorem put4_box (w : World) (b : Nat) (u : Un) (h : ∀ k, k < 4 → ∃ v, w.cell? ⟨b, k, none⟩ = some v) : Box (put4 w b u) b u := by
  obtain ⟨v0, h0⟩ := h 0 (by decide)
  obtain ⟨v1, h1⟩ := h 1 (by decide)
  obtain ⟨v2, h2⟩ := h 2 (by decide)
  obtain ⟨v3, h3⟩ := h 3 (by decide)
  intro k hk
  unfold put4
  match k, hk with
  | 0, _ =>
    rw [World.cell?_setCell_other _ _ _ _ (by simp), World.cell?_setCell_other _ _ _ _ (by simp), World.cell?_setCell_other _ _ _ _ (by simp), World.cell?_setCell_same _ _ _ h0]; rfl
  | 1, _ =>
    rw [World.cell?_setCell_other _ _ _ _ (by simp), World.cell?_setCell_other _ _ _ _ (by simp), World.cell?_setCell_same _ _ _ (u := v1) (by rw [World.cell?_setCell_other _ _ _ _ (by simp)]; exact h1)]; rfl
  | 2, _ =>
    rw [World.cell?_setCell_other _ _ _ _ (by simp), World.cell?_setCell_same _ _ _ (u := v2) (by rw [World.cell?_setCell_other _ _ _ _ (by simp), World.cell?_setCell_other _ _ _ _ (by simp)]; exact h2)]; rfl
  | 3, _ =>
    rw [World.cell?_setCell_same _ _ _ (u := v3) (by rw [World.cell?_setCell_other _ _ _ _ (by simp), World.cell?_setCell_other _ _ _ _ (by simp), World.cell?_setCell_other _ _ _ _ (by simp)]; exact h3)]; rfl
theorem TK.make (w : World) (base g cap m : Nat) (q : List Un) (hq : QR w base g cap q) (b4 b5 : Nat) (hb : (b4 = w.heap.size + 1 ∧ b5 = w.heap.size + 1 + 1) ∨ (b4 = w.heap.size + 1 + 1 ∧ b5 = w.heap.size + 1)) :
    TK w base g cap m q w.heap.size b4 b5 (put4 (put4 (((w.alloc zo).alloc zo).alloc zo) b4 (qa q 0)) b5 (qa q m)).drew := by
  have hlt := hq.lt.2
  have e1 : (w.alloc zo).heap.size = w.heap.size + 1 := by simp
  have e2 : ((w.alloc zo).alloc zo).heap.size = w.heap.size + 1 + 1 := by simp
  have e3 : (((w.alloc zo).alloc zo).alloc zo).heap.size = w.heap.size + 1 + 1 + 1 := by simp
  have hc0 : Chg (fun _ => False) w (((w.alloc zo).alloc zo).alloc zo) := ((Chg.alloc _ w _).trans (Chg.alloc _ _ _) (fun _ _ h => h)).trans (Chg.alloc _ _ _) (fun _ _ h => h)
  have hp1 := put4_chg (((w.alloc zo).alloc zo).alloc zo) b4 (qa q 0)
  have hp2 := put4_chg (put4 (((w.alloc zo).alloc zo).alloc zo) b4 (qa q 0)) b5 (qa q m)
  have hc : Chg (fun _ => False) w (put4 (put4 (((w.alloc zo).alloc zo).alloc zo) b4 (qa q 0)) b5 (qa q m)).drew := by
    refine (hc0.trans ((hp1.mono (S' := fun k => k = b4 ∨ k = b5) (fun _ _ e => .inl e)).trans hp2 (fun _ _ e => .inr e)) (fun k hk e => ?_)).trans (Chg.drew _ _) (fun _ _ h => h)
    omega
  have hnew : ∀ b, b = w.heap.size ∨ b = w.heap.size + 1 ∨ b = w.heap.size + 1 + 1 → ∀ k, (((w.alloc zo).alloc zo).alloc zo).cell? ⟨b, k, none⟩ = (#[Value.float .f64 0, .int .i32 0, .int .i32 0, .bool false] : Array Value)[k]? := fun b hb k => by
    rcases hb with e | e | e
    · rw [World.cell?_alloc_lt _ _ _ (by rw [e2]; show b < _; omega), World.cell?_alloc_lt _ _ _ (by rw [e1]; show b < _; omega), e]
      exact World.cell?_alloc_new ..
    · rw [World.cell?_alloc_lt _ _ _ (by rw [e2]; show b < _; omega), e, ← e1]
      exact World.cell?_alloc_new ..
    · rw [e, ← e2]
      exact World.cell?_alloc_new ..
  have hsome : ∀ b, b = w.heap.size + 1 ∨ b = w.heap.size + 1 + 1 → ∀ k, k < 4 → ∃ v, (((w.alloc zo).alloc zo).alloc zo).cell? ⟨b, k, none⟩ = some v := fun b hb k hk => by
    rw [hnew b (.inr hb) k]
    match k, hk with
    | 0, _ => exact ⟨_, rfl⟩
    | 1, _ => exact ⟨_, rfl⟩
    | 2, _ => exact ⟨_, rfl⟩
    | 3, _ => exact ⟨_, rfl⟩
  have hlt4 : b4 < (((w.alloc zo).alloc zo).alloc zo).heap.size := by rw [e3]; omega
  have hlt5 : b5 < (((w.alloc zo).alloc zo).alloc zo).heap.size := by rw [e3]; omega
  have hltH : w.heap.size < (((w.alloc zo).alloc zo).alloc zo).heap.size := by rw [e3]; omega
  have hr : ∀ k, (put4 (put4 (((w.alloc zo).alloc zo).alloc zo) b4 (qa q 0)) b5 (qa q m)).drew.cell? ⟨w.heap.size, k, none⟩ = (#[Value.float .f64 0, .int .i32 0, .int .i32 0, .bool false] : Array Value)[k]? := fun k => by
    rw [World.cell?_drew, hp2.cell (p := ⟨w.heap.size, k, none⟩) (Nat.lt_of_lt_of_le hltH hp1.size) (by show w.heap.size ≠ b5; omega), hp1.cell (p := ⟨w.heap.size, k, none⟩) hltH (by show w.heap.size ≠ b4; omega), hnew _ (.inl rfl)]
  have x4 : Box (put4 (put4 (((w.alloc zo).alloc zo).alloc zo) b4 (qa q 0)) b5 (qa q m)).drew b4 (qa q 0) :=
    ((put4_box _ b4 (qa q 0) (hsome b4 (by omega))).chg hp2 (by show b4 ≠ b5; omega)).chg (Chg.drew (fun _ => False) _) id
  have x5 : Box (put4 (put4 (((w.alloc zo).alloc zo).alloc zo) b4 (qa q 0)) b5 (qa q m)).drew b5 (qa q m) := by
    refine (put4_box _ b5 (qa q m) (fun k hk => ?_)).chg (Chg.drew (fun _ => False) _) id
    rw [hp1.cell (p := ⟨b5, k, none⟩) hlt5 (by show b5 ≠ b4; omega)]
    exact hsome b5 (by omega) k hk
  refine ⟨hq.chg hc id, x4, x5, hr 0, hr 1, hr 2, hr 3, fun k => ?_, by omega, by omega, by omega, by omega, by omega, Nat.le_refl _, hc⟩
  rw [World.frozen?_drew, put4_soft, put4_soft]
  unfold zo
  rw [frozen?_alloc_cells, frozen?_alloc_cells]
  exact World.frozen?_alloc_new ..

/-- The end of the walk: the queue q' in the row, the result's cell written. -/
theorem TK.fin {w : World} {base g cap m : Nat} {q : List Un} {H b4 b5 : Nat} {W : World} (hF : TK w base g cap m q H b4 b5 W) {w1 : World} {q' : List Un} (hc : Chg (fun k => k = g) W w1) (hq' : QR w1 base g cap q') (hh : Heap q') (hp : List.Perm (qa q 0 :: q') q) (hl : q'.length = m) (n : Nat) :
    TakePost base g cap q w (.returned (.tuple #[ua (qa q 0), .slice (some ⟨g, 0, none⟩) m cap])) ((put4 w1 H (qa q 0)).drewN n) := by
  refine ⟨q', by rw [hl], ?_, hh, hp, ?_⟩
  · exact (hq'.chg (put4_chg _ _ _) (fun e => hF.nH e.symm)).chg (Chg.drewN (fun _ => False) _ n) id
  · refine (((hF.chg.mono (fun _ _ e => e.elim)).trans hc (fun _ _ h => h)).trans (put4_chg _ _ _) (fun k hk e => ?_)).trans (Chg.drewN _ _ n) (fun _ _ h => h)
    have := hF.old
    omega

set_option maxHeartbeats 2000000 in
set_option maxRecDepth 100000 in
theorem takeLeast_walk (w : World) (base g cap L m : Nat) (q : List Un) (hq : QR w base g cap q) (hh : Heap q) (hL : q.length = L) (hm : L = m + 1) (hl : L < 100000) (hs : ∀ x ∈ q, Small x.v) :
    Calls Yba.prog 22 #[.slice (some ⟨g, 0, none⟩) L cap] w (TakePost base g cap q w) := by
  have hglt := hq.lt.2
  have hwm : IntKind.i64.wrap ((L : Int) - 1) = (m : Int) := by rw [IntKind.wrap_i64]; omega
  have hm0 : (0 : Int) ≤ (m : Int) := by omega
  have hm1 : (m : Int) < (L : Int) := by omega
  have hL1 : 0 < L := by omega
  have hcap : (m : Int) ≤ (cap : Int) := by
    have := hq.caps
    omega
  have fall : ∀ w', QR w' base g cap q → S8 w' g m q := fun w' hq => by
    have f : ∀ j, j < q.length → w'.cell? ⟨g, j * 4, none⟩ = some (.float .f64 (fl (qa q j).v)) ∧ w'.cell? ⟨g, j * 4 + 1, none⟩ = some (.int .i32 (qa q j).n) ∧ w'.cell? ⟨g, j * 4 + 2, none⟩ = some (.int .i32 (qa q j).i) ∧ w'.cell? ⟨g, j * 4 + 3, none⟩ = some (.bool (qa q j).again) := fun j hj => by
      have g0 := hq.at (j := j) (o := 0) hj (by decide)
      have g1 := hq.at (j := j) (o := 1) hj (by decide)
      have g2 := hq.at (j := j) (o := 2) hj (by decide)
      have g3 := hq.at (j := j) (o := 3) hj (by decide)
      rw [Nat.add_zero] at g0
      exact ⟨g0, g1, g2, g3⟩
    obtain ⟨a0, a1, a2, a3⟩ := f 0 (by omega)
    rw [Nat.zero_mul, Nat.zero_add] at a1 a2 a3
    rw [Nat.zero_mul] at a0
    obtain ⟨b0, b1, b2, b3⟩ := f m (by omega)
    exact ⟨a0, a1, a2, a3, b0, b1, b2, b3⟩
  have HF : Hid (∀ w', QR w' base g cap q → S8 w' g m q) := fall
  clear fall
  have HM : Hid (L = m + 1) := hm
  have HL : Hid (q.length = L) := hL
  clear hm hL
  go_enter Yba.func22, Yba.ntmps22
  go_wp2_with fail
  go_region_held3 (fun w' => w'.cell? ⟨g, 0, none⟩ = some (.float .f64 (fl (qa q 0).v)) ∧ w'.cell? ⟨g, 1, none⟩ = some (.int .i32 (qa q 0).n) ∧ w'.cell? ⟨g, 2, none⟩ = some (.int .i32 (qa q 0).i) ∧ w'.cell? ⟨g, 3, none⟩ = some (.bool (qa q 0).again) ∧ w'.cell? ⟨g, m * 4, none⟩ = some (.float .f64 (fl (qa q m).v)) ∧ w'.cell? ⟨g, m * 4 + 1, none⟩ = some (.int .i32 (qa q m).n) ∧ w'.cell? ⟨g, m * 4 + 2, none⟩ = some (.int .i32 (qa q m).i) ∧ w'.cell? ⟨g, m * 4 + 3, none⟩ = some (.bool (qa q m).again))
    (exact HF.out _ (by repeat (first | with_reducible exact hq | with_reducible apply QR.drew | with_reducible apply QR.alloc | (with_reducible refine QR.far ?_ _ _ _ (by omega)))))
    (fail)
  all_goals clear HF
  all_goals rename_i hHeld
  all_goals clear hHeld
  · refine gen_world _ (TK.make w base g cap m q hq (w.heap.size + 1) (w.heap.size + 1 + 1) (.inl ⟨rfl, rfl⟩)) ?_
    intro W hF
    generalize w.heap.size + 1 + 1 = b5 at hF ⊢
    generalize w.heap.size + 1 = b4 at hF ⊢
    generalize w.heap.size = H at hF ⊢
    have hLm : L - 1 = m := by have := HM.out; omega
    have hLi : (L : Int) - 1 = (m : Int) := by have := HM.out; omega
    have hL2 : (1 : Int) ≤ (L : Int) := by have := HM.out; omega
    have p0 := hF.x4 0 (by decide)
    have p1 := hF.x4 1 (by decide)
    have p2 := hF.x4 2 (by decide)
    have p3 := hF.x4 3 (by decide)
    simp only [uc] at p0 p1 p2 p3
    have r0 := hF.r0
    have r1 := hF.r1
    have r2 := hF.r2
    have r3 := hF.r3
    have rf := hF.soft
    have hF' := hF.nH
    by_cases hmz : m = 0
    · have d : ((m : Int) == 0) = true := by simp [hmz]
      have HZ : Hid (m = 0) := hmz
      clear hmz
      go_wp2_with fail
      refine bodyPost_ret (v := .tuple #[ua (qa q 0), .slice (some ⟨g, 0, none⟩) m cap]) (by unfold ua; simp [results, go_sem, *]) rfl ?_
      have := hF.fin (Chg.refl _ _) (hF.qr.take 0 (Nat.zero_le _)) (fun j _ h => by simp at h) (by
        have h1 := HM.out
        have h2 := HL.out
        have h3 := HZ.out
        match q, h2 with
        | [x], _ => exact List.Perm.refl _
        | [], h2 => simp at h2; omega
        | _ :: _ :: _, h2 => simp at h2; omega) (by simpa using HZ.out.symm) 0
      rwa [World.drewN_zero] at this
    · have d : ((m : Int) == 0) = false := by simp [hmz]
      have HZ : Hid (m ≠ 0) := hmz
      clear hmz
      go_wp2_with fail
      have st : Dn ((q.take m).set 0 (qa q m)) (q.take m) 0 (qa q m) := Dn.start _ _ (hh.take m (by rw [HL.out]; have := HM.out; omega)) (by rw [List.length_take]; have := HM.out; have := HL.out; have := HZ.out; omega)
      have HPM : Hid (List.Perm (qa q 0 :: (q.take m).set 0 (qa q m)) q) := take_perm q m (by rw [HL.out]; exact HM.out) (Nat.pos_of_ne_zero HZ.out)
      have HS : Hid (∀ x ∈ q, Small x.v) := hs
      have hqt := hF.qr.take m (by rw [HL.out]; have := HM.out; omega)
      have hlt : (q.take m).length = m := by rw [List.length_take]; have := HM.out; have := HL.out; omega
      clear hs hh p0 p1 p2 p3 r0 r1 r2 r3 rf hq hglt hLm hLi hL2 hwm d
      go_loopw [6] (fun x wr => ∃ (i : Nat) (q' : List Un), x = .int .i64 i ∧ Dn ((q.take m).set 0 (qa q m)) q' i (qa q m) ∧ q'.length = m ∧ QR wr base g cap q' ∧ Chg (fun k => k = g) W wr) (fun x _ => m - (intOf x).toNat)
      case atStart => exact ⟨0, q.take m, rfl, st, hlt, hqt, Chg.refl _ _⟩
      case round =>
        clear st hlt hqt
        obtain ⟨i, q', rfl, hdn, hlen, hqr, hchg⟩ := hrel
        have hilt := hdn.lt
        have y4 := hF.x4.chg hchg hF.n4
        have y5 := hF.x5.chg hchg hF.n5
        have hHlt : H < W.heap.size := World.block_lt_of_cell? W _ hF.r0
        have r0 := (hchg.cell (p := ⟨H, 0, none⟩) hHlt hF.nH).trans hF.r0
        have r1 := (hchg.cell (p := ⟨H, 1, none⟩) hHlt hF.nH).trans hF.r1
        have r2 := (hchg.cell (p := ⟨H, 2, none⟩) hHlt hF.nH).trans hF.r2
        have r3 := (hchg.cell (p := ⟨H, 3, none⟩) hHlt hF.nH).trans hF.r3
        have rf := fun k => (hchg.frozen (p := ⟨H, k, none⟩) hHlt hF.nH).trans (hF.soft k)
        have p0 := y4 0 (by decide)
        have p1 := y4 1 (by decide)
        have p2 := y4 2 (by decide)
        have p3 := y4 3 (by decide)
        have l0 := y5 0 (by decide)
        have l1 := y5 1 (by decide)
        have l2 := y5 2 (by decide)
        have l3 := y5 3 (by decide)
        have g0 := hqr.at (j := i) (o := 0) hilt (by decide)
        have g1 := hqr.at (j := i) (o := 1) hilt (by decide)
        have g2 := hqr.at (j := i) (o := 2) hilt (by decide)
        have g3 := hqr.at (j := i) (o := 3) hilt (by decide)
        rw [Nat.add_zero] at g0
        simp only [uc] at p0 p1 p2 p3 l0 l1 l2 l3 g0 g1 g2 g3
        have sf := hqr.soft
        have n1 : b4 ≠ g := hF.n4
        have n2 : b5 ≠ g := hF.n5
        have n3 : H ≠ g := hF.nH
        have n4 : b4 ≠ H := hF.n4H
        rw [hlen] at hilt
        have HLen : Hid (q'.length = m) := hlen
        clear hlen y4 y5
        have hfin : Heap (q'.set i (qa q m)) → ∀ n, TakePost base g cap q w (.returned (.tuple #[ua (qa q 0), .slice (some ⟨g, 0, none⟩) m cap])) ((put4 ((((wr.setCell ⟨g, i * 4, none⟩ (.float .f64 (fl (qa q m).v))).setCell ⟨g, i * 4 + 1, none⟩ (.int .i32 (qa q m).n)).setCell ⟨g, i * 4 + 2, none⟩ (.int .i32 (qa q m).i)).setCell ⟨g, i * 4 + 3, none⟩ (.bool (qa q m).again)) H (qa q 0)).drewN n) := fun hhp n =>
          hF.fin (hchg.trans (chg4 wr g _ _ _ _ _ _ _ _) (fun _ _ h => h)) (hqr.set i (qa q m) (by rw [HLen.out]; exact hilt)) hhp ((List.Perm.cons _ hdn.perm).trans HPM.out) (by rw [List.length_set]; exact HLen.out) n
        by_cases hA : m ≤ 2 * i + 1
        · have d1 : decide ((m : Int) ≤ 2 * (i : Int) + 1) = true := by rw [decide_eq_true_iff]; omega
          have HF : Hid _ := hfin (hdn.done (fun j j0 jl jp => by rw [HLen.out] at jl; omega))
          clear hfin
          go_wp2_with fail
          refine bodyPost_ret (v := .tuple #[ua (qa q 0), .slice (some ⟨g, 0, none⟩) m cap]) (by unfold ua; simp [results, go_sem, *]) rfl ?_
          have := HF.out 0
          rwa [World.drewN_zero] at this
        · have d1 : decide ((m : Int) ≤ 2 * (i : Int) + 1) = false := by rw [decide_eq_false_iff_not]; omega
          go_wp2_with fail
          obtain ⟨bl, hbl⟩ : ∃ bl : Nat, 2 * (i : Int) + 1 = (bl : Int) := ⟨2 * i + 1, by omega⟩
          obtain ⟨rt, hrt⟩ : ∃ rt : Nat, 2 * (i : Int) + 1 + 1 = (rt : Int) := ⟨2 * i + 2, by omega⟩
          have HB : Hid (bl = 2 * i + 1) := by show bl = 2 * i + 1; omega
          have HR : Hid (rt = 2 * i + 2) := by show rt = 2 * i + 2; omega
          have hlb : bl < m := by omega
          have hlb1 : (bl : Int) < (m : Int) := by omega
          have hlb0 : (0 : Int) ≤ (bl : Int) := by omega
          have hrt0 : (0 : Int) ≤ (rt : Int) := by omega
          have B0 := hqr.at (j := bl) (o := 0) (by rw [HLen.out]; exact hlb) (by decide)
          have B1 := hqr.at (j := bl) (o := 1) (by rw [HLen.out]; exact hlb) (by decide)
          have B2 := hqr.at (j := bl) (o := 2) (by rw [HLen.out]; exact hlb) (by decide)
          have B3 := hqr.at (j := bl) (o := 3) (by rw [HLen.out]; exact hlb) (by decide)
          rw [Nat.add_zero] at B0
          simp only [uc] at B0 B1 B2 B3
          have smq : ∀ j, j < m → j ≠ i → Small (qa q' j).v := fun j hj hji => by
            have hm : qa q' j ∈ q'.set i (qa q m) := by
              have := qa_mem (q'.set i (qa q m)) j (by rw [List.length_set, HLen.out]; exact hj)
              rwa [qa_set _ _ _ _ (by rw [HLen.out]; exact hilt), if_neg hji] at this
            exact HS.out _ (HPM.out.mem_iff.1 (List.mem_cons_of_mem _ (hdn.perm.mem_iff.1 hm)))
          have sml : Small (qa q m).v := HS.out _ (qa_mem q m (by rw [HL.out, HM.out]; omega))
          have smB := smq bl hlb (by omega)
          have cB := fl_leq (qa q m).v (qa q' bl).v sml smB
          rw [hrt, hbl]
          clear hbl hrt hA d1
          by_cases hC : rt < m
          · have hlr1 : (rt : Int) < (m : Int) := by omega
            have R0 := hqr.at (j := rt) (o := 0) (by rw [HLen.out]; exact hC) (by decide)
            have R1 := hqr.at (j := rt) (o := 1) (by rw [HLen.out]; exact hC) (by decide)
            have R2 := hqr.at (j := rt) (o := 2) (by rw [HLen.out]; exact hC) (by decide)
            have R3 := hqr.at (j := rt) (o := 3) (by rw [HLen.out]; exact hC) (by decide)
            rw [Nat.add_zero] at R0
            simp only [uc] at R0 R1 R2 R3
            have smR := smq rt hC (by have := HR.out; omega)
            have cR := fl_leq (qa q m).v (qa q' rt).v sml smR
            have cc := fl_lt (qa q' rt).v (qa q' bl).v smR smB
            by_cases hE : (qa q' rt).v < (qa q' bl).v
            · have kid : Kid q' i rt := ⟨by rw [HLen.out]; exact hC, by have := HR.out; omega, by have := HR.out; omega, fun j j0 jl jp => by
                have h1 := HR.out
                have h2 := HB.out
                have : j = rt ∨ j = bl := by omega
                rcases this with e | e
                · rw [e]; exact Int.le_refl _
                · rw [e]; omega⟩
              have HK : Hid (Kid q' i rt) := kid
              clear kid smq
              have d2 : decide ((qa q' rt).v < (qa q' bl).v) = true := by rw [decide_eq_true_iff]; exact hE
              by_cases hD : (qa q m).v ≤ (qa q' rt).v
              · skip
                have d3 : decide ((qa q m).v ≤ (qa q' rt).v) = true := by rw [decide_eq_true_iff]; exact hD
                go_quiet (fail)
                go_wp2_with fail
                go_quiet (fail)
                go_wp2_with fail
                refine bodyPost_ret (v := .tuple #[ua (qa q 0), .slice (some ⟨g, 0, none⟩) m cap]) (by unfold ua; simp [results, go_sem, *]) rfl ?_
                exact hfin (hdn.done (fun j j0 jl jp => Int.le_trans hD (HK.out.le j j0 jl jp))) _
              · skip
                have d3 : decide ((qa q m).v ≤ (qa q' rt).v) = false := by rw [decide_eq_false_iff_not]; exact hD
                go_quiet (fail)
                go_wp2_with fail
                go_quiet (fail)
                go_wp2_with fail
                go_roundw
                case rel =>
                  exact ⟨rt, q'.set i (qa q' rt), rfl, hdn.step HK.out (by omega), by rw [List.length_set]; exact HLen.out, (hqr.set i (qa q' rt) (by rw [HLen.out]; exact hilt)).chg (Chg.drewN (fun _ => False) _ _) id, (hchg.trans (chg4 wr g _ _ _ _ _ _ _ _) (fun _ _ h => h)).trans (Chg.drewN _ _ _) (fun _ _ h => h)⟩
                case measure =>
                  have := HB.out
                  have := HR.out
                  simp [intOf]; omega
            · have kid : Kid q' i bl := ⟨by rw [HLen.out]; exact hlb, by have := HB.out; omega, by have := HB.out; omega, fun j j0 jl jp => by
                have h1 := HR.out
                have h2 := HB.out
                have : j = rt ∨ j = bl := by omega
                rcases this with e | e
                · rw [e]; omega
                · rw [e]; exact Int.le_refl _⟩
              have HK : Hid (Kid q' i bl) := kid
              clear kid smq
              have d2 : decide ((qa q' rt).v < (qa q' bl).v) = false := by rw [decide_eq_false_iff_not]; exact hE
              by_cases hD : (qa q m).v ≤ (qa q' bl).v
              · skip
                have d3 : decide ((qa q m).v ≤ (qa q' bl).v) = true := by rw [decide_eq_true_iff]; exact hD
                go_quiet (fail)
                go_wp2_with fail
                go_quiet (fail)
                go_wp2_with fail
                refine bodyPost_ret (v := .tuple #[ua (qa q 0), .slice (some ⟨g, 0, none⟩) m cap]) (by unfold ua; simp [results, go_sem, *]) rfl ?_
                exact hfin (hdn.done (fun j j0 jl jp => Int.le_trans hD (HK.out.le j j0 jl jp))) _
              · skip
                have d3 : decide ((qa q m).v ≤ (qa q' bl).v) = false := by rw [decide_eq_false_iff_not]; exact hD
                go_quiet (fail)
                go_wp2_with fail
                go_quiet (fail)
                go_wp2_with fail
                go_roundw
                case rel =>
                  exact ⟨bl, q'.set i (qa q' bl), rfl, hdn.step HK.out (by omega), by rw [List.length_set]; exact HLen.out, (hqr.set i (qa q' bl) (by rw [HLen.out]; exact hilt)).chg (Chg.drewN (fun _ => False) _ _) id, (hchg.trans (chg4 wr g _ _ _ _ _ _ _ _) (fun _ _ h => h)).trans (Chg.drewN _ _ _) (fun _ _ h => h)⟩
                case measure =>
                  have := HB.out
                  have := HR.out
                  simp [intOf]; omega
          · have d2 : decide ((rt : Int) < (m : Int)) = false := by rw [decide_eq_false_iff_not]; omega
            have kid : Kid q' i bl := ⟨by rw [HLen.out]; exact hlb, by have := HB.out; omega, by have := HB.out; omega, fun j j0 jl jp => by
                have h1 := HR.out
                have h2 := HB.out
                rw [HLen.out] at jl
                have : j = bl := by omega
                rw [this]; exact Int.le_refl _⟩
            have HK : Hid (Kid q' i bl) := kid
            clear kid smq
            by_cases hD : (qa q m).v ≤ (qa q' bl).v
            · skip
              have d3 : decide ((qa q m).v ≤ (qa q' bl).v) = true := by rw [decide_eq_true_iff]; exact hD
              go_quiet (fail)
              go_wp2_with fail
              go_quiet (fail)
              go_wp2_with fail
              refine bodyPost_ret (v := .tuple #[ua (qa q 0), .slice (some ⟨g, 0, none⟩) m cap]) (by unfold ua; simp [results, go_sem, *]) rfl ?_
              exact hfin (hdn.done (fun j j0 jl jp => Int.le_trans hD (HK.out.le j j0 jl jp))) _
            · skip
              have d3 : decide ((qa q m).v ≤ (qa q' bl).v) = false := by rw [decide_eq_false_iff_not]; exact hD
              go_quiet (fail)
              go_wp2_with fail
              go_quiet (fail)
              go_wp2_with fail
              go_roundw
              case rel =>
                exact ⟨bl, q'.set i (qa q' bl), rfl, hdn.step HK.out (by omega), by rw [List.length_set]; exact HLen.out, (hqr.set i (qa q' bl) (by rw [HLen.out]; exact hilt)).chg (Chg.drewN (fun _ => False) _ _) id, (hchg.trans (chg4 wr g _ _ _ _ _ _ _ _) (fun _ _ h => h)).trans (Chg.drewN _ _ _) (fun _ _ h => h)⟩
              case measure =>
                have := HB.out
                have := HR.out
                simp [intOf]; omega
  · refine gen_world _ (TK.make w base g cap m q hq (w.heap.size + 1 + 1) (w.heap.size + 1) (.inr ⟨rfl, rfl⟩)) ?_
    intro W hF
    generalize w.heap.size + 1 + 1 = b4 at hF ⊢
    generalize w.heap.size + 1 = b5 at hF ⊢
    generalize w.heap.size = H at hF ⊢
    have hLm : L - 1 = m := by have := HM.out; omega
    have hLi : (L : Int) - 1 = (m : Int) := by have := HM.out; omega
    have hL2 : (1 : Int) ≤ (L : Int) := by have := HM.out; omega
    have p0 := hF.x4 0 (by decide)
    have p1 := hF.x4 1 (by decide)
    have p2 := hF.x4 2 (by decide)
    have p3 := hF.x4 3 (by decide)
    simp only [uc] at p0 p1 p2 p3
    have r0 := hF.r0
    have r1 := hF.r1
    have r2 := hF.r2
    have r3 := hF.r3
    have rf := hF.soft
    have hF' := hF.nH
    by_cases hmz : m = 0
    · have d : ((m : Int) == 0) = true := by simp [hmz]
      have HZ : Hid (m = 0) := hmz
      clear hmz
      go_wp2_with fail
      refine bodyPost_ret (v := .tuple #[ua (qa q 0), .slice (some ⟨g, 0, none⟩) m cap]) (by unfold ua; simp [results, go_sem, *]) rfl ?_
      have := hF.fin (Chg.refl _ _) (hF.qr.take 0 (Nat.zero_le _)) (fun j _ h => by simp at h) (by
        have h1 := HM.out
        have h2 := HL.out
        have h3 := HZ.out
        match q, h2 with
        | [x], _ => exact List.Perm.refl _
        | [], h2 => simp at h2; omega
        | _ :: _ :: _, h2 => simp at h2; omega) (by simpa using HZ.out.symm) 0
      rwa [World.drewN_zero] at this
    · have d : ((m : Int) == 0) = false := by simp [hmz]
      have HZ : Hid (m ≠ 0) := hmz
      clear hmz
      go_wp2_with fail
      have st : Dn ((q.take m).set 0 (qa q m)) (q.take m) 0 (qa q m) := Dn.start _ _ (hh.take m (by rw [HL.out]; have := HM.out; omega)) (by rw [List.length_take]; have := HM.out; have := HL.out; have := HZ.out; omega)
      have HPM : Hid (List.Perm (qa q 0 :: (q.take m).set 0 (qa q m)) q) := take_perm q m (by rw [HL.out]; exact HM.out) (Nat.pos_of_ne_zero HZ.out)
      have HS : Hid (∀ x ∈ q, Small x.v) := hs
      have hqt := hF.qr.take m (by rw [HL.out]; have := HM.out; omega)
      have hlt : (q.take m).length = m := by rw [List.length_take]; have := HM.out; have := HL.out; omega
      clear hs hh p0 p1 p2 p3 r0 r1 r2 r3 rf hq hglt hLm hLi hL2 hwm d
      go_loopw [6] (fun x wr => ∃ (i : Nat) (q' : List Un), x = .int .i64 i ∧ Dn ((q.take m).set 0 (qa q m)) q' i (qa q m) ∧ q'.length = m ∧ QR wr base g cap q' ∧ Chg (fun k => k = g) W wr) (fun x _ => m - (intOf x).toNat)
      case atStart => exact ⟨0, q.take m, rfl, st, hlt, hqt, Chg.refl _ _⟩
      case round =>
        clear st hlt hqt
        obtain ⟨i, q', rfl, hdn, hlen, hqr, hchg⟩ := hrel
        have hilt := hdn.lt
        have y4 := hF.x4.chg hchg hF.n4
        have y5 := hF.x5.chg hchg hF.n5
        have hHlt : H < W.heap.size := World.block_lt_of_cell? W _ hF.r0
        have r0 := (hchg.cell (p := ⟨H, 0, none⟩) hHlt hF.nH).trans hF.r0
        have r1 := (hchg.cell (p := ⟨H, 1, none⟩) hHlt hF.nH).trans hF.r1
        have r2 := (hchg.cell (p := ⟨H, 2, none⟩) hHlt hF.nH).trans hF.r2
        have r3 := (hchg.cell (p := ⟨H, 3, none⟩) hHlt hF.nH).trans hF.r3
        have rf := fun k => (hchg.frozen (p := ⟨H, k, none⟩) hHlt hF.nH).trans (hF.soft k)
        have p0 := y4 0 (by decide)
        have p1 := y4 1 (by decide)
        have p2 := y4 2 (by decide)
        have p3 := y4 3 (by decide)
        have l0 := y5 0 (by decide)
        have l1 := y5 1 (by decide)
        have l2 := y5 2 (by decide)
        have l3 := y5 3 (by decide)
        have g0 := hqr.at (j := i) (o := 0) hilt (by decide)
        have g1 := hqr.at (j := i) (o := 1) hilt (by decide)
        have g2 := hqr.at (j := i) (o := 2) hilt (by decide)
        have g3 := hqr.at (j := i) (o := 3) hilt (by decide)
        rw [Nat.add_zero] at g0
        simp only [uc] at p0 p1 p2 p3 l0 l1 l2 l3 g0 g1 g2 g3
        have sf := hqr.soft
        have n1 : b4 ≠ g := hF.n4
        have n2 : b5 ≠ g := hF.n5
        have n3 : H ≠ g := hF.nH
        have n4 : b4 ≠ H := hF.n4H
        rw [hlen] at hilt
        have HLen : Hid (q'.length = m) := hlen
        clear hlen y4 y5
        have hfin : Heap (q'.set i (qa q m)) → ∀ n, TakePost base g cap q w (.returned (.tuple #[ua (qa q 0), .slice (some ⟨g, 0, none⟩) m cap])) ((put4 ((((wr.setCell ⟨g, i * 4, none⟩ (.float .f64 (fl (qa q m).v))).setCell ⟨g, i * 4 + 1, none⟩ (.int .i32 (qa q m).n)).setCell ⟨g, i * 4 + 2, none⟩ (.int .i32 (qa q m).i)).setCell ⟨g, i * 4 + 3, none⟩ (.bool (qa q m).again)) H (qa q 0)).drewN n) := fun hhp n =>
          hF.fin (hchg.trans (chg4 wr g _ _ _ _ _ _ _ _) (fun _ _ h => h)) (hqr.set i (qa q m) (by rw [HLen.out]; exact hilt)) hhp ((List.Perm.cons _ hdn.perm).trans HPM.out) (by rw [List.length_set]; exact HLen.out) n
        by_cases hA : m ≤ 2 * i + 1
        · have d1 : decide ((m : Int) ≤ 2 * (i : Int) + 1) = true := by rw [decide_eq_true_iff]; omega
          have HF : Hid _ := hfin (hdn.done (fun j j0 jl jp => by rw [HLen.out] at jl; omega))
          clear hfin
          go_wp2_with fail
          refine bodyPost_ret (v := .tuple #[ua (qa q 0), .slice (some ⟨g, 0, none⟩) m cap]) (by unfold ua; simp [results, go_sem, *]) rfl ?_
          have := HF.out 0
          rwa [World.drewN_zero] at this
        · have d1 : decide ((m : Int) ≤ 2 * (i : Int) + 1) = false := by rw [decide_eq_false_iff_not]; omega
          go_wp2_with fail
          obtain ⟨bl, hbl⟩ : ∃ bl : Nat, 2 * (i : Int) + 1 = (bl : Int) := ⟨2 * i + 1, by omega⟩
          obtain ⟨rt, hrt⟩ : ∃ rt : Nat, 2 * (i : Int) + 1 + 1 = (rt : Int) := ⟨2 * i + 2, by omega⟩
          have HB : Hid (bl = 2 * i + 1) := by show bl = 2 * i + 1; omega
          have HR : Hid (rt = 2 * i + 2) := by show rt = 2 * i + 2; omega
          have hlb : bl < m := by omega
          have hlb1 : (bl : Int) < (m : Int) := by omega
          have hlb0 : (0 : Int) ≤ (bl : Int) := by omega
          have hrt0 : (0 : Int) ≤ (rt : Int) := by omega
          have B0 := hqr.at (j := bl) (o := 0) (by rw [HLen.out]; exact hlb) (by decide)
          have B1 := hqr.at (j := bl) (o := 1) (by rw [HLen.out]; exact hlb) (by decide)
          have B2 := hqr.at (j := bl) (o := 2) (by rw [HLen.out]; exact hlb) (by decide)
          have B3 := hqr.at (j := bl) (o := 3) (by rw [HLen.out]; exact hlb) (by decide)
          rw [Nat.add_zero] at B0
          simp only [uc] at B0 B1 B2 B3
          have smq : ∀ j, j < m → j ≠ i → Small (qa q' j).v := fun j hj hji => by
            have hm : qa q' j ∈ q'.set i (qa q m) := by
              have := qa_mem (q'.set i (qa q m)) j (by rw [List.length_set, HLen.out]; exact hj)
              rwa [qa_set _ _ _ _ (by rw [HLen.out]; exact hilt), if_neg hji] at this
            exact HS.out _ (HPM.out.mem_iff.1 (List.mem_cons_of_mem _ (hdn.perm.mem_iff.1 hm)))
          have sml : Small (qa q m).v := HS.out _ (qa_mem q m (by rw [HL.out, HM.out]; omega))
          have smB := smq bl hlb (by omega)
          have cB := fl_leq (qa q m).v (qa q' bl).v sml smB
          rw [hrt, hbl]
          clear hbl hrt hA d1
          by_cases hC : rt < m
          · have hlr1 : (rt : Int) < (m : Int) := by omega
            have R0 := hqr.at (j := rt) (o := 0) (by rw [HLen.out]; exact hC) (by decide)
            have R1 := hqr.at (j := rt) (o := 1) (by rw [HLen.out]; exact hC) (by decide)
            have R2 := hqr.at (j := rt) (o := 2) (by rw [HLen.out]; exact hC) (by decide)
            have R3 := hqr.at (j := rt) (o := 3) (by rw [HLen.out]; exact hC) (by decide)
            rw [Nat.add_zero] at R0
            simp only [uc] at R0 R1 R2 R3
            have smR := smq rt hC (by have := HR.out; omega)
            have cR := fl_leq (qa q m).v (qa q' rt).v sml smR
            have cc := fl_lt (qa q' rt).v (qa q' bl).v smR smB
            by_cases hE : (qa q' rt).v < (qa q' bl).v
            · have kid : Kid q' i rt := ⟨by rw [HLen.out]; exact hC, by have := HR.out; omega, by have := HR.out; omega, fun j j0 jl jp => by
                have h1 := HR.out
                have h2 := HB.out
                have : j = rt ∨ j = bl := by omega
                rcases this with e | e
                · rw [e]; exact Int.le_refl _
                · rw [e]; omega⟩
              have HK : Hid (Kid q' i rt) := kid
              clear kid smq
              have d2 : decide ((qa q' rt).v < (qa q' bl).v) = true := by rw [decide_eq_true_iff]; exact hE
              by_cases hD : (qa q m).v ≤ (qa q' rt).v
              · skip
                have d3 : decide ((qa q m).v ≤ (qa q' rt).v) = true := by rw [decide_eq_true_iff]; exact hD
                go_quiet (fail)
                go_wp2_with fail
                go_quiet (fail)
                go_wp2_with fail
                refine bodyPost_ret (v := .tuple #[ua (qa q 0), .slice (some ⟨g, 0, none⟩) m cap]) (by unfold ua; simp [results, go_sem, *]) rfl ?_
                exact hfin (hdn.done (fun j j0 jl jp => Int.le_trans hD (HK.out.le j j0 jl jp))) _
              · skip
                have d3 : decide ((qa q m).v ≤ (qa q' rt).v) = false := by rw [decide_eq_false_iff_not]; exact hD
                go_quiet (fail)
                go_wp2_with fail
                go_quiet (fail)
                go_wp2_with fail
                go_roundw
                case rel =>
                  exact ⟨rt, q'.set i (qa q' rt), rfl, hdn.step HK.out (by omega), by rw [List.length_set]; exact HLen.out, (hqr.set i (qa q' rt) (by rw [HLen.out]; exact hilt)).chg (Chg.drewN (fun _ => False) _ _) id, (hchg.trans (chg4 wr g _ _ _ _ _ _ _ _) (fun _ _ h => h)).trans (Chg.drewN _ _ _) (fun _ _ h => h)⟩
                case measure =>
                  have := HB.out
                  have := HR.out
                  simp [intOf]; omega
            · have kid : Kid q' i bl := ⟨by rw [HLen.out]; exact hlb, by have := HB.out; omega, by have := HB.out; omega, fun j j0 jl jp => by
                have h1 := HR.out
                have h2 := HB.out
                have : j = rt ∨ j = bl := by omega
                rcases this with e | e
                · rw [e]; omega
                · rw [e]; exact Int.le_refl _⟩
              have HK : Hid (Kid q' i bl) := kid
              clear kid smq
              have d2 : decide ((qa q' rt).v < (qa q' bl).v) = false := by rw [decide_eq_false_iff_not]; exact hE
              by_cases hD : (qa q m).v ≤ (qa q' bl).v
              · skip
                have d3 : decide ((qa q m).v ≤ (qa q' bl).v) = true := by rw [decide_eq_true_iff]; exact hD
                go_quiet (fail)
                go_wp2_with fail
                go_quiet (fail)
                go_wp2_with fail
                refine bodyPost_ret (v := .tuple #[ua (qa q 0), .slice (some ⟨g, 0, none⟩) m cap]) (by unfold ua; simp [results, go_sem, *]) rfl ?_
                exact hfin (hdn.done (fun j j0 jl jp => Int.le_trans hD (HK.out.le j j0 jl jp))) _
              · skip
                have d3 : decide ((qa q m).v ≤ (qa q' bl).v) = false := by rw [decide_eq_false_iff_not]; exact hD
                go_quiet (fail)
                go_wp2_with fail
                go_quiet (fail)
                go_wp2_with fail
                go_roundw
                case rel =>
                  exact ⟨bl, q'.set i (qa q' bl), rfl, hdn.step HK.out (by omega), by rw [List.length_set]; exact HLen.out, (hqr.set i (qa q' bl) (by rw [HLen.out]; exact hilt)).chg (Chg.drewN (fun _ => False) _ _) id, (hchg.trans (chg4 wr g _ _ _ _ _ _ _ _) (fun _ _ h => h)).trans (Chg.drewN _ _ _) (fun _ _ h => h)⟩
                case measure =>
                  have := HB.out
                  have := HR.out
                  simp [intOf]; omega
          · have d2 : decide ((rt : Int) < (m : Int)) = false := by rw [decide_eq_false_iff_not]; omega
            have kid : Kid q' i bl := ⟨by rw [HLen.out]; exact hlb, by have := HB.out; omega, by have := HB.out; omega, fun j j0 jl jp => by
                have h1 := HR.out
                have h2 := HB.out
                rw [HLen.out] at jl
                have : j = bl := by omega
                rw [this]; exact Int.le_refl _⟩
            have HK : Hid (Kid q' i bl) := kid
            clear kid smq
            by_cases hD : (qa q m).v ≤ (qa q' bl).v
            · skip
              have d3 : decide ((qa q m).v ≤ (qa q' bl).v) = true := by rw [decide_eq_true_iff]; exact hD
              go_quiet (fail)
              go_wp2_with fail
              go_quiet (fail)
              go_wp2_with fail
              refine bodyPost_ret (v := .tuple #[ua (qa q 0), .slice (some ⟨g, 0, none⟩) m cap]) (by unfold ua; simp [results, go_sem, *]) rfl ?_
              exact hfin (hdn.done (fun j j0 jl jp => Int.le_trans hD (HK.out.le j j0 jl jp))) _
            · skip
              have d3 : decide ((qa q m).v ≤ (qa q' bl).v) = false := by rw [decide_eq_false_iff_not]; exact hD
              go_quiet (fail)
              go_wp2_with fail
              go_quiet (fail)
              go_wp2_with fail
              go_roundw
              case rel =>
                exact ⟨bl, q'.set i (qa q' bl), rfl, hdn.step HK.out (by omega), by rw [List.length_set]; exact HLen.out, (hqr.set i (qa q' bl) (by rw [HLen.out]; exact hilt)).chg (Chg.drewN (fun _ => False) _ _) id, (hchg.trans (chg4 wr g _ _ _ _ _ _ _ _) (fun _ _ h => h)).trans (Chg.drewN _ _ _) (fun _ _ h => h)⟩
              case measure =>
                have := HB.out
                have := HR.out
                simp [intOf]; omega
end Go.Proofs.Ybulkbuhe
