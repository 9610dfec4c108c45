/-
  The walk of zzs3540cbuild.
-/
import Derived.Test.YbulkbuheE4
import Derived.Test.YbulkbuheD1
import Derived.OwnWalk
import Derived.Deep.QuietTactic
import Derived.BigQuiet
namespace Go.Proofs.Ybulkbuhe
open Go.RowKit Fl
attribute [local go_sem] run_store_float setCell_drewN alloc_drewN
attribute [-go_sem] World.setCell_alloc_at World.setCell_alloc_past

/-- What the build leaves. -/
def BuildPost (base tb : Nat) (h : Shape) (vals : Nat → Int) (w : World) (e : Ending) (w' : World) : Prop :=
  ∃ cb nb cap M, e = .returned (.int .i32 h.root) ∧ Tr w' base tb cb nb h.N cap M ∧ Mem h M (smF h vals) (snF h vals) ∧ Chg (fun k => k = tb) w w' ∧ (∀ i, i ≠ 0 → i ≠ 2 → w'.cell? ⟨tb, i, none⟩ = w.cell? ⟨tb, i, none⟩) ∧ w.heap.size ≤ cb ∧ w.heap.size ≤ nb

/-- The vals that came in. -/
def Vals (base : Nat) (x : Addr) (len : Nat) (vals : Nat → Int) (w : World) : Prop := x.block < base ∧ ∀ j, j < len → w.cell? (x.add j) = some (.int .u8 (vals j))
theorem Vals.chg {base : Nat} {x : Addr} {len : Nat} {vals : Nat → Int} {w w' : World} {S : Nat → Prop} (v : Vals base x len vals w) (hc : Chg S w w') (hS : ∀ k, S k → base ≤ k) : Vals base x len vals w' := by
  refine ⟨v.1, fun j hj => ?_⟩
  have hb : (x.add j).block = x.block := by unfold Addr.add; split <;> rfl
  have h1 := v.2 j hj
  rw [hc.cell (p := x.add j) (World.block_lt_of_cell? w _ h1) (fun e => by have := hS _ e; rw [hb] at this; have := v.1; omega)]
  exact h1

theorem small_of2 {x : Int} (h0 : -100000 ≤ x) (h1 : x ≤ 100000) : Small x := by unfold Small; omega
theorem small_rmin (vals : Nat → Int) (hv : ∀ j, 0 ≤ vals j ∧ vals j ≤ 255) (a b : Nat) : Small (rmin vals a b) := by
  unfold rmin
  obtain ⟨z, _, _, hz⟩ := (mn_min (fun i => vals (a + i)) (b - a - 1)).2
  rw [hz]
  have := hv (a + z)
  exact small_of2 (by dsimp only; omega) (by dsimp only; omega)
/-- A node is whole. -/
theorem build_node {base tb : Nat} {h : Shape} {o : h.Ok} {vals : Nat → Int} {w0 w w2 w3 wr : World} {n c : Nat} {lvv : Value} {lvl : List Nat} {cb nb cap nb2 cap2 : Nat} {M M' : Nat → Nat → Value} {lf : Bool} (B : Bld base tb h vals w0 n lvv lvl w cb nb cap M)
    (hc2 : Chg (fun i => i = tb ∨ i = cb ∨ i = nb) w w2) (hnb2 : nb2 = nb ∨ w.heap.size ≤ nb2) (hr2 : ∀ i, i ≠ 2 → w2.cell? ⟨tb, i, none⟩ = w.cell? ⟨tb, i, none⟩) (hq : ∀ n' o, n' < n → M' n' o = M n' o) (hp : Part h M' (smF h vals) n c lf) (hcn : c = h.cnt n) (h1n : 1 ≤ n) (hnN : n < h.N) (hlf : h.leaf n = lf) (hcc : Chg (fun k => k = nb2) w2 wr)
    (hT : Tr w3 base tb cb nb2 (n + 1) cap2 (upd M' n 27 (.float .f64 (fl (snF h vals n))))) (hc3 : Chg (fun k => k = nb2) wr w3) :
    Bld base tb h vals w0 (n + 1) lvv lvl w3 cb nb2 cap2 (upd M' n 27 (.float .f64 (fl (snF h vals n)))) := by
  have hne : ∀ n' o, (n' ≠ n ∨ o ≠ 27) → upd M' n 27 (.float .f64 (fl (snF h vals n))) n' o = M' n' o := fun n' o e => by unfold upd; rw [if_neg (by omega)]
  have h8 : c ≤ 8 := by rw [hcn]; exact o.cnt8 n h1n hnN
  have hlow := B.chg.size
  have hch : Chg (fun k => k = nb2) w2 w3 := hcc.trans hc3 (fun _ _ h => h)
  have ltt := B.tr.ltt
  have l2t : tb < w2.heap.size := Nat.lt_of_lt_of_le ltt hc2.size
  have hsep : ∀ k, lvv.ownBlock = some k → k ≠ nb2 := fun k e => by
    rcases hnb2 with e2 | e2
    · rw [e2]; exact (B.sep k e).2.2.1
    · have := (B.row.lt k e).2; omega
  refine ⟨hT, fun n' a b => ?_, hch.row (hc2.row B.row (fun k e => ?_)) hsep, fun k e => ⟨(B.sep k e).1, (B.sep k e).2.1, hsep k e, (B.sep k e).2.2.2⟩, B.cnew, ?_, ?_, fun i i0 i2 => ?_, Nat.le_trans B.low (Nat.le_trans hc2.size hch.size)⟩
  · by_cases e : n' = n
    · subst e
      refine ⟨?_, by unfold upd; rw [if_pos ⟨rfl, rfl⟩]⟩
      rw [← hcn, hlf]
      exact ⟨by rw [hne _ _ (.inr (by decide))]; exact hp.count, by rw [hne _ _ (.inr (by decide))]; exact hp.leaf, by rw [hne _ _ (.inr (by decide))]; exact hp.owed, fun i hi => by rw [hne _ _ (.inr (by omega))]; exact hp.keys i hi, fun i hi => by rw [hne _ _ (.inr (by omega))]; exact hp.sums i hi, fun i hi => by rw [hne _ _ (.inr (by omega))]; exact hp.refs i hi, fun i hi => by rw [hne _ _ (.inr (by omega))]; exact hp.sizes i hi⟩
    · have hb : n' < n := by omega
      obtain ⟨p1, p2⟩ := B.mem n' a hb
      exact ⟨p1.congr (fun o => by rw [hne _ _ (.inl e)]; exact hq n' o hb) (fun i _ => rfl), by rw [hne _ _ (.inl e), hq n' 27 hb]; exact p2⟩
  · obtain ⟨a1, a2, a3, a4⟩ := B.sep k e
    rintro (e' | e' | e')
    · exact a1 e'
    · exact a2 e'
    · exact a3 e'
  · rcases hnb2 with e | e
    · rw [e]; exact B.nnew
    · omega
  · refine (B.chg.trans hc2 (fun k hk e => ?_)).trans hch (fun k hk e => ?_)
    · rcases e with e | e | e
      · exact e
      · have := B.cnew; omega
      · have := B.nnew; omega
    · subst e
      rcases hnb2 with e | e
      · have := B.nnew; omega
      · omega
  · rw [hch.cell (p := ⟨tb, i, none⟩) l2t hT.tbn, hr2 i i2]; exact B.rest i i0 i2
/-- The node is laid in the level's row. -/
theorem level_next {base tb : Nat} {h : Shape} {vals : Nat → Int} {w0 w w' : World} {n cur : Nat} {lvv : Value} {lvl : List Nat} {cb nb cap : Nat} {M : Nat → Nat → Value} (B : Bld base tb h vals w0 cur lvv lvl w cb nb cap M)
    {g cap' : Nat} (hown : w'.ownsRow base 21 1 (.slice (some ⟨g, 0, none⟩) (lvl.length + 1) cap') (lvl.length + 1) ((lvl.map fun n : Nat => Value.int .i32 (n : Int)) ++ [.int .i32 (n : Int)])) (hc : Chg (fun k => lvv.ownBlock = some k) w w') (hg : lvv.ownBlock = some g ∨ w.heap.size ≤ g) :
    Bld base tb h vals w0 cur (.slice (some ⟨g, 0, none⟩) (lvl.length + 1) cap') (lvl ++ [n]) w' cb nb cap M := by
  have l1 := B.tr.ltt
  have l2 := B.tr.ltc
  have l3 := B.tr.ltn
  have hlow := B.chg.size
  refine ⟨B.tr.chg hc (fun e => (B.sep _ e).1 rfl) (fun e => (B.sep _ e).2.1 rfl) (fun e => (B.sep _ e).2.2.1 rfl), B.mem, ?_, fun k e => ?_, B.cnew, B.nnew, B.chg.trans hc (fun k hk e => ?_), fun i i0 i2 => ?_, Nat.le_trans B.low hc.size⟩
  · rw [List.length_append, List.length_singleton, List.map_append]
    exact hown
  · obtain rfl : g = k := Option.some.inj e
    rcases hg with e | e
    · exact B.sep g e
    · exact ⟨by omega, by omega, by omega, by omega⟩
  · have := (B.sep k e).2.2.2; omega
  · rw [hc.cell (p := ⟨tb, i, none⟩) l1 (fun e => (B.sep _ e).1 rfl)]; exact B.rest i i0 i2
/-- The level's row, beside the one that is laid. -/
structure Lev (base tb cb nb : Nat) (w0 w : World) (lev : Value) (L : List Nat) (upv : Value) : Prop where
  row : w.ownsRow base 21 1 lev L.length (L.map fun n : Nat => Value.int .i32 (n : Int))
  sep : ∀ k, lev.ownBlock = some k → k ≠ tb ∧ k ≠ cb ∧ k ≠ nb ∧ w0.heap.size ≤ k ∧ upv.ownBlock ≠ some k
theorem lv_pos {len : Nat} (h0 : 1 ≤ len) : ∀ h, 0 < lv len h := by
  intro h
  induction h with
  | zero => exact h0
  | succ h ih => show 0 < (lv len h + 7) / 8; omega
theorem top_of {len hh : Nat} (h1 : hh ≤ topH len) (h2 : lv len (hh + 1) ≤ 1) : hh = topH len := by
  rcases topH_cases len with ⟨t, t1⟩ | ⟨t, t1, t2⟩ | ⟨t, t1, t2, t3⟩ | ⟨t, t1, t2, t3⟩ <;> rw [t] at h1 ⊢
  · omega
  · have : hh = 0 ∨ hh = 1 := by omega
    rcases this with rfl | rfl
    · have : lv len 1 ≤ 1 := h2
      omega
    · rfl
  · have : hh = 0 ∨ hh = 1 ∨ hh = 2 := by omega
    rcases this with rfl | rfl | rfl
    · have : lv len 1 ≤ 1 := h2
      omega
    · have : lv len 2 ≤ 1 := h2
      omega
    · rfl
  · have : hh = 0 ∨ hh = 1 ∨ hh = 2 ∨ hh = 3 := by omega
    rcases this with rfl | rfl | rfl | rfl
    · have : lv len 1 ≤ 1 := h2
      omega
    · have : lv len 2 ≤ 1 := h2
      omega
    · have : lv len 3 ≤ 1 := h2
      omega
    · rfl
theorem lv_small {len : Nat} (hl : len ≤ 1024) (h : Nat) : lv len (h + 1) < 1000 := by
  have key : ∀ h, lv len (h + 1) ≤ 128 := by
    intro h
    induction h with
    | zero => show (len + 7) / 8 ≤ 128; omega
    | succ h ih => show (lv len (h + 1) + 7) / 8 ≤ 128; omega
  have := key h
  omega
theorem not_top {len hh : Nat} (h0 : 1 ≤ len) (hl : len ≤ 1024) (h1 : hh ≤ topH len) (h2 : 1 < lv len (hh + 1)) : hh + 1 ≤ topH len := by
  have l1 : lv len 1 = (len + 7) / 8 := rfl
  have l2 : lv len 2 = (lv len 1 + 7) / 8 := rfl
  have l3 : lv len 3 = (lv len 2 + 7) / 8 := rfl
  have l4 : lv len 4 = (lv len 3 + 7) / 8 := rfl
  rcases Nat.lt_or_ge hh (topH len) with e | e
  · exact e
  · exfalso
    have e2 : hh = topH len := by omega
    subst e2
    rcases topH_cases len with ⟨t, t1⟩ | ⟨t, t1, t2⟩ | ⟨t, t1, t2, t3⟩ | ⟨t, t1, t2, t3⟩ <;> rw [t] at h2
    · have h3 : 1 < lv len 1 := h2
      omega
    · have h3 : 1 < lv len 2 := h2
      omega
    · have h3 : 1 < lv len 3 := h2
      omega
    · have h3 : 1 < lv len 4 := h2
      omega
theorem shapeN (len : Nat) (hl : len ≤ 1024) : (shapeOf len).N ≤ 900 := by
  show off len (topH len) + 1 ≤ 900
  have e0 : off len 0 = 1 := rfl
  have e1 : off len 1 = 1 + lv len 1 := rfl
  have e2 : off len 2 = 1 + lv len 1 + lv len 2 := rfl
  have e3 : off len 3 = 1 + lv len 1 + lv len 2 + lv len 3 := rfl
  have l1 : lv len 1 = (len + 7) / 8 := rfl
  have l2 : lv len 2 = (lv len 1 + 7) / 8 := rfl
  have l3 : lv len 3 = (lv len 2 + 7) / 8 := rfl
  rcases topH_cases len with ⟨t, _⟩ | ⟨t, _⟩ | ⟨t, _⟩ | ⟨t, _⟩ <;> rw [t] <;> omega
/-- A slice's length. -/
def sliceLen : Value → Nat
  | .slice _ n _ => n
  | _ => 0
theorem lvl_cons (t : Nat) : (List.range (t + 1)).map (fun k => 1 + k) = (List.range t).map (fun k => 1 + k) ++ [1 + t] := by rw [List.range_succ, List.map_append]; rfl

theorem branch_at {len hh t n m i : Nat} (hup : hh + 1 ≤ topH len) (htl : t < lv len (hh + 1 + 1)) (hn : n = off len (hh + 1) + t) (hi : i = 8 * t) (hm : m = lv len (hh + 1)) :
    (shapeOf len).leaf n = false ∧ (shapeOf len).cnt n = min 8 (m - i) ∧ ∀ c, (shapeOf len).ref n c = off len hh + (i + c) := by
  have ht3 : topH len ≤ 3 := by rcases topH_cases len with ⟨t, _⟩ | ⟨t, _⟩ | ⟨t, _⟩ | ⟨t, _⟩ <;> omega
  obtain ⟨a1, a2⟩ := node_at len (hh + 1) t (by omega) htl
  rw [← hn] at a1 a2
  refine ⟨?_, ?_, fun c => ?_⟩
  · simp only [shapeOf, a1]; simp
  · simp only [shapeOf, a1, a2]; rw [hm, hi]
  · simp only [shapeOf, a1, a2]; rw [if_neg (by omega), hi, Nat.add_sub_cancel]
/-- What a branch's entry reads of its child. -/
theorem kid_facts {h : Shape} (o : h.Ok) {vals : Nat → Int} {M M' : Nat → Nat → Value} {n c : Nat} (hm : MemTo h M (smF h vals) (snF h vals) n) (hq : ∀ n' o, n' < n → M' n' o = M n' o) (h1 : 1 ≤ n) (h2 : n < h.N) (hl : h.leaf n = false) (hc : c < h.cnt n) (ch : Nat) (hch : ch = h.ref n c) :
    ch < n ∧ Fair M' ch (h.cnt ch) ∧ M' ch (3 + (h.cnt ch - 1)) = .int .i32 ((h.s n (c + 1) : Int) - 1) ∧ M' ch 27 = .float .f64 (fl (smF h vals n c)) := by
  obtain ⟨k1, k2, _, k4, _⟩ := o.kids n c h1 h2 hc hl
  rw [← hch] at k1 k2 k4
  obtain ⟨p, p27⟩ := hm ch k1 k2
  have c1 := o.cnt1 ch k1 (by omega)
  have c8 := o.cnt8 ch k1 (by omega)
  refine ⟨k2, ⟨by rw [hq _ _ k2]; exact p.count, c1, c8, ⟨_, by rw [hq _ _ k2]; exact p.leaf⟩, fun i hi => by rw [hq _ _ k2]; exact p.sizes i hi, by rw [hq _ _ k2]; exact p.owed⟩, ?_, ?_⟩
  · rw [hq _ _ k2, p.keys _ (by omega), show h.cnt ch - 1 + 1 = h.cnt ch by omega, k4]
  · rw [hq _ _ k2, p27, ← snF_kid o vals h1 h2 hc hl, hch]
theorem Lev.next {base tb cb nb nb2 : Nat} {w0 w w2 w3 w4 : World} {lev upv : Value} {L : List Nat} (l : Lev base tb cb nb w0 w lev L upv) (hc2 : Chg (fun i => i = tb ∨ i = cb ∨ i = nb) w w2) (hnb2 : nb2 = nb ∨ w.heap.size ≤ nb2) (hcc : Chg (fun k => k = nb2) w2 w3) (hc4 : Chg (fun k => upv.ownBlock = some k) w3 w4) {g : Nat} (hg : upv.ownBlock = some g ∨ w3.heap.size ≤ g) (ln cap : Nat) :
    Lev base tb cb nb2 w0 w4 lev L (.slice (some ⟨g, 0, none⟩) ln cap) := by
  have hn2 : ∀ k, lev.ownBlock = some k → k ≠ nb2 := fun k e => by
    rcases hnb2 with e2 | e2
    · rw [e2]; exact (l.sep k e).2.2.1
    · have := (l.row.lt k e).2; omega
  refine ⟨hc4.row (hcc.row (hc2.row l.row (fun k e => ?_)) hn2) (fun k e e' => (l.sep k e).2.2.2.2 e'), fun k e => ⟨(l.sep k e).1, (l.sep k e).2.1, hn2 k e, (l.sep k e).2.2.2.1, fun e' => ?_⟩⟩
  · obtain ⟨a1, a2, a3, a4⟩ := l.sep k e
    rintro (e' | e' | e')
    · exact a1 e'
    · exact a2 e'
    · exact a3 e'
  · obtain rfl : g = k := Option.some.inj e'
    rcases hg with h | h
    · exact (l.sep g e).2.2.2.2 h
    · have := (l.row.lt g e).2
      have := hc2.size
      have := hcc.size
      omega
theorem lvl_cons2 (a t : Nat) : (List.range (t + 1)).map (fun k => a + k) = (List.range t).map (fun k => a + k) ++ [a + t] := by rw [List.range_succ, List.map_append]; rfl
theorem Lev.next0 {base tb cb nb nb2 : Nat} {w0 w w2 w3 : World} {lev upv : Value} {L : List Nat} (l : Lev base tb cb nb w0 w lev L upv) (hc2 : Chg (fun i => i = tb ∨ i = cb ∨ i = nb) w w2) (hnb2 : nb2 = nb ∨ w.heap.size ≤ nb2) (hcc : Chg (fun k => k = nb2) w2 w3) :
    Lev base tb cb nb2 w0 w3 lev L (.slice none 0 0) := by
  have hn2 : ∀ k, lev.ownBlock = some k → k ≠ nb2 := fun k e => by
    rcases hnb2 with e2 | e2
    · rw [e2]; exact (l.sep k e).2.2.1
    · have := (l.row.lt k e).2; omega
  refine ⟨hcc.row (hc2.row l.row (fun k e => ?_)) hn2, fun k e => ⟨(l.sep k e).1, (l.sep k e).2.1, hn2 k e, (l.sep k e).2.2.2.1, fun e' => (by cases e')⟩⟩
  obtain ⟨a1, a2, a3, a4⟩ := l.sep k e
  rintro (e' | e' | e')
  · exact a1 e'
  · exact a2 e'
  · exact a3 e'

set_option maxHeartbeats 4000000 in
set_option maxRecDepth 100000 in
theorem build_walk (w : World) (base tb len vc : Nat) (x : Addr) (vals : Nat → Int) (h0 : 1 ≤ len) (hl : len ≤ 1024) (hv : ∀ j, 0 ≤ vals j ∧ vals j ≤ 255)
    (t0 : w.cell? ⟨tb, 0, none⟩ = some (.slice none 0 0)) (t2 : w.cell? ⟨tb, 2, none⟩ = some (.int .i64 0)) (st : ∀ i, w.frozen? ⟨tb, i, none⟩ = false) (hbt : base ≤ tb) (hb : base ≤ w.heap.size) (hvs : Vals base x len vals w) :
    Calls Yba.prog 5 #[.pointer (some ⟨tb, 0, none⟩), .slice (some x) len vc] w (BuildPost base tb (shapeOf len) vals w) := by
  have o := shape_ok h0 hl
  have HA := add_first w base tb t0 t2 st hbt hb
  have HVs : Hid (Vals base x len vals w) := hvs
  have HV : Hid (∀ j, 0 ≤ vals j ∧ vals j ≤ 255) := hv
  have hlz : ((len : Int) == 0) = false := by simp; omega
  clear hvs hv t0 t2 st
  go_enter Yba.func5, Yba.ntmps5
  go_wp2_with (first | (go_at_call 17; refine HA.mono ?_; rintro e w1 ⟨cb, nb, cap, rfl, hT1, hc1, hcb, hnb, hrest⟩))
  have hB1 : Bld base tb (shapeOf len) vals w 1 (.slice none 0 0) [] w1 cb nb cap (fun _ o => zc o) := ⟨hT1, fun n a b => by omega, World.ownsRow_nil _ _ _ _, fun k e => (by cases e), hcb, hnb, hc1, hrest, Nat.le_trans hb hc1.size⟩
  have HB1 : Hid _ := hB1
  clear hB1 HA hT1 hc1 hcb hnb hrest
  go_loopw [5, 6] (fun lvv iv wr => ∃ t i n : Nat, i = 8 * t ∧ n = 1 + t ∧ iv = .int .i64 (i : Int) ∧ i < len + 8 ∧ ∃ cb nb cap M, Bld base tb (shapeOf len) vals w n lvv ((List.range t).map fun k => 1 + k) wr cb nb cap M) (fun _ iv _ => len + 8 - (intOf iv).toNat)
  case atStart => exact ⟨0, 0, 1, rfl, rfl, rfl, by omega, cb, nb, cap, _, HB1.out⟩
  case round =>
    obtain ⟨t, i, n, hi8, hn1, rfl, ht, cb, nb, cap, M, hB⟩ := hrel
    have HI : Hid (i = 8 * t) := hi8
    have HN : Hid (n = 1 + t) := hn1
    by_cases hlt : i < len
    · have d1 : decide ((i : Int) < (len : Int)) = true := by rw [decide_eq_true_iff]; omega
      have hn9 : n < 900 := by omega
      have hwn : IntKind.i32.wrap (n : Int) = (n : Int) := by rw [IntKind.wrap_i32]; omega
      have hin : (i : Int) < 2000 := by omega
      clear hi8 hn1 HB1
      have HAd := add_walk wr base tb cb nb n cap M hB.tr hn9 hB.low
      have HBd : Hid _ := hB
      clear hB
      go_wp2_with (first | (go_at_call 17; refine HAd.mono ?_; rintro e w2 ⟨nb2, cap2, rfl, hT2, hc2, hnb2, hrest2⟩))
      have g1 := hT2.at (Nat.lt_succ_self n) (show 1 < 36 by decide)
      have sf := hT2.softn (n * 36 + 1)
      have HNd := node_walk w2 base tb cb nb2 (n + 1) cap2 n (grow M n) hT2 (Nat.lt_succ_self n)
      have HT2 : Hid (Tr w2 base tb cb nb2 (n + 1) cap2 (grow M n)) := hT2
      have HC2 : Hid _ := hc2
      have HNb2 : Hid _ := hnb2
      have HR2 : Hid _ := hrest2
      clear hT2 hc2 hnb2 hrest2 HAd
      refine HNd.mono ?_
      rintro e w' ⟨rfl, hw'⟩
      have hw' := hw'.symm
      subst hw'
      clear HNd
      go_wp2_with fail
      have hT3 := HT2.out.set (n := n) (o := 1) (by decide) (.bool true)
      have hP3 : Part (shapeOf len) (upd (grow M n) n 1 (.bool true)) (smF (shapeOf len) vals) n 0 true := by
        have p := part_new (shapeOf len) M (smF (shapeOf len) vals) n
        have e : ∀ o, o ≠ 1 → upd (grow M n) n 1 (.bool true) n o = grow M n n o := fun o ho => by unfold upd; rw [if_neg (fun e => ho e.2)]
        exact ⟨by rw [e 0 (by decide)]; exact p.count, by unfold upd; rw [if_pos ⟨rfl, rfl⟩], by rw [e 2 (by decide)]; exact p.owed, fun i hi => absurd hi (Nat.not_lt_zero _), fun i hi => absurd hi (Nat.not_lt_zero _), fun i hi => absurd hi (Nat.not_lt_zero _), fun i hi => by rw [e _ (by omega)]; exact p.sizes i hi⟩
      have hQ3 : ∀ n' o, n' < n → upd (grow M n) n 1 (.bool true) n' o = M n' o := fun n' o hn' => by
        unfold upd grow
        rw [if_neg (fun e => by omega), if_neg (by omega)]
      have hc3 : Chg (fun k => k = nb2) w2 (w2.setCell ⟨nb2, n * 36 + 1, none⟩ (.bool true)) := Chg.setCell w2 _ _ rfl
      refine gen_world (P := fun W => Code.wp _ _ _ _ W) (fun W => ∃ M', Tr W base tb cb nb2 (n + 1) cap2 M' ∧ Part (shapeOf len) M' (smF (shapeOf len) vals) n 0 true ∧ (∀ n' o, n' < n → M' n' o = M n' o) ∧ Chg (fun k => k = nb2) w2 W) ⟨_, hT3, hP3, hQ3, hc3⟩ ?_
      rintro W3 hW3
      clear g1 sf hT3 hP3 hQ3 hc3
      go_loopw [9] (fun jv wr2 => ∃ c j : Nat, j = i + c ∧ c ≤ (shapeOf len).cnt n ∧ jv = .int .i64 (j : Int) ∧ ∃ M', Tr wr2 base tb cb nb2 (n + 1) cap2 M' ∧ Part (shapeOf len) M' (smF (shapeOf len) vals) n c true ∧ (∀ n' o, n' < n → M' n' o = M n' o) ∧ Chg (fun k => k = nb2) w2 wr2) (fun jv _ => i + 8 - (intOf jv).toNat)
      case atStart => exact ⟨0, i, rfl, Nat.zero_le _, rfl, hW3⟩
      case round =>
        clear hW3
        obtain ⟨c, j, hjc, hcc, rfl, M', hT, hP, hQ, hC⟩ := hrel
        have hna := node_at len 0 t (by omega) (by show t < lv len 1; show t < (len + 7) / 8; have := HI.out; omega)
        have hnn : off len 0 + t = n := by show 1 + t = n; exact HN.out.symm
        rw [hnn] at hna
        have hcnt : (shapeOf len).cnt n = min 8 (len - i) := by simp only [shapeOf, hna.1, hna.2]; show min 8 (len - 8 * t) = _; rw [← HI.out]
        have hnN : n < (shapeOf len).N := by
          have := node_lt len 0 t h0 hl (Nat.zero_le _) (by show t < lv len 1; show t < (len + 7) / 8; have := HI.out; omega)
          rw [hnn] at this
          exact this.2
        have hnl : (shapeOf len).leaf n = true := by simp only [shapeOf, hna.1, decide_true]
        have hsn : ∀ c', (shapeOf len).s n c' = min len (i + c') := fun c' => by simp only [shapeOf, hna.1, hna.2, pw, Nat.mul_one]; rw [← HI.out]
        have href : ∀ c', (shapeOf len).ref n c' = i + c' := fun c' => by simp only [shapeOf, hna.1, hna.2, if_true]; rw [← HI.out]
        have HCt : Hid ((shapeOf len).cnt n = min 8 (len - i)) := hcnt
        have HSn : Hid _ := hsn
        have HRf : Hid _ := href
        have HJ : Hid (j = i + c) := hjc
        have c0 := hT.at (Nat.lt_succ_self n) (show 0 < 36 by decide)
        rw [hP.count, Nat.add_zero] at c0
        by_cases hcl : c < (shapeOf len).cnt n
        · have hj1 : j < len := by rw [hcnt] at hcl; omega
          have hc8 : c < 8 := by rw [hcnt] at hcl; omega
          have e1 : decide ((j : Int) < (len : Int)) = true := by rw [decide_eq_true_iff]; omega
          have e2 : decide ((j : Int) < (i : Int) + 8) = true := by rw [decide_eq_true_iff]; omega
          have hci0 : (0 : Int) ≤ (c : Int) := by omega
          have hci8 : (c : Int) < 8 := by omega
          have hwj : IntKind.i32.wrap (j : Int) = (j : Int) := by rw [IntKind.wrap_i32]; omega
          have hji0 : (0 : Int) ≤ (j : Int) := by omega
          have hjil : (j : Int) < (len : Int) := by omega
          have c3 := hT.at (Nat.lt_succ_self n) (show 3 + c < 36 by omega)
          have c11 := hT.at (Nat.lt_succ_self n) (show 11 + c < 36 by omega)
          have c19 := hT.at (Nat.lt_succ_self n) (show 19 + c < 36 by omega)
          rw [← Nat.add_assoc] at c3 c11 c19
          have sfn := hT.softn
          have hVr : Vals base x len vals wr := HVs.out.chg (HBd.out.chg) (fun k e => by rw [e]; exact hbt) |>.chg HC2.out (fun k e => by rcases e with e | e | e; rw [e]; exact hbt; rw [e]; exact HBd.out.tr.bcb; rw [e]; exact HBd.out.tr.bnb) |>.chg hC (fun k e => by rw [e]; exact hT.bnb)
          have hvj := hVr.2 j hj1
          have hfl := fl_eq (vals j)
          have HTt : Hid _ := hT
          have HPp : Hid _ := hP
          have HQq : Hid _ := hQ
          have HCc : Hid _ := hC
          clear hT hP hQ hC hjc hcc hna hnn hcnt hsn href hcl hVr
          go_wp2_with fail
          have hxb : x.block ≠ nb2 := by have := HVs.out.1; have := HTt.out.bnb; omega
          have hxa : ∀ k, (⟨nb2, k, none⟩ : Addr) ≠ x.add j := fun k e => hxb (by
            have hb' : (x.add j).block = x.block := by unfold Addr.add; split <;> rfl
            rw [← hb', ← e])
          have hT4 := HTt.out.set (n := n) (o := 3 + c) (by omega) (.int .i32 (j : Int))
          rw [← Nat.add_assoc] at hT4
          have hv4 : (wr.setCell ⟨nb2, n * 36 + 3 + c, none⟩ (.int .i32 (j : Int))).cell? (x.add j) = some (.int .u8 (vals j)) := by rw [World.cell?_setCell_other _ _ _ _ (hxa _)]; exact hvj
          have k4 : Chg (fun k => k = nb2) wr (wr.setCell ⟨nb2, n * 36 + 3 + c, none⟩ (.int .i32 (j : Int))) := Chg.setCell wr _ _ rfl
          have HK4 : Hid _ := k4
          clear c0 c3 c11 c19 sfn hvj k4
          generalize wr.setCell ⟨nb2, n * 36 + 3 + c, none⟩ (.int .i32 (j : Int)) = W4 at hT4 hv4 HK4 ⊢
          have c11 := hT4.at (Nat.lt_succ_self n) (show 11 + c < 36 by omega)
          rw [← Nat.add_assoc] at c11
          have sfn := hT4.softn
          have HV4 : Hid _ := hv4
          have HXa : Hid _ := hxa
          have HT4 : Hid _ := hT4
          clear hT4
          go_region_held3 (fun w' => w'.cell? (x.add j) = some (.int .u8 (vals j)))
            (first
              | (exact HV4.out)
              | (rw [World.cell?_drew]; exact HV4.out)
              | (rw [World.cell?_drew, World.cell?_setCell_other _ _ _ _ (HXa.out _)]; exact HV4.out))
            (fail)
          have hT5 := (HT4.out.set (n := n) (o := 11 + c) (by omega) (.float .f64 (fl (vals j)))).drew
          rw [← Nat.add_assoc] at hT5
          have k5 : Chg (fun k => k = nb2) W4 ((W4.setCell ⟨nb2, n * 36 + 11 + c, none⟩ (.float .f64 (fl (vals j)))).drew) := (Chg.setCell (S := fun k => k = nb2) W4 _ _ rfl).trans (Chg.drew _ _) (fun _ _ h => h)
          have HK5 : Hid _ := HK4.out.trans k5 (fun _ _ h => h)
          rename_i hHeld
          clear hHeld c11 sfn HV4 hv4 HT4 k5 HK4
          generalize (W4.setCell ⟨nb2, n * 36 + 11 + c, none⟩ (.float .f64 (fl (vals j)))).drew = W5 at hT5 HK5 ⊢
          have c19 := hT5.at (Nat.lt_succ_self n) (show 19 + c < 36 by omega)
          rw [← Nat.add_assoc] at c19
          have c0 := hT5.at (Nat.lt_succ_self n) (show 0 < 36 by decide)
          rw [show upd (upd M' n (3 + c) (.int .i32 (j : Int))) n (11 + c) (.float .f64 (fl (vals j))) n 0 = .int .i32 (c : Int) from by unfold upd; rw [if_neg (by omega), if_neg (by omega)]; exact HPp.out.count, Nat.add_zero] at c0
          have sfn := hT5.softn
          have hT6 := (hT5.set (n := n) (o := 19 + c) (by omega) (.int .i32 (j : Int))).set (n := n) (o := 0) (by decide) (.int .i32 ((c + 1 : Nat) : Int))
          rw [← Nat.add_assoc, Nat.add_zero] at hT6
          have k6 : Chg (fun k => k = nb2) W5 ((W5.setCell ⟨nb2, n * 36 + 19 + c, none⟩ (.int .i32 (j : Int))).setCell ⟨nb2, n * 36, none⟩ (.int .i32 ((c + 1 : Nat) : Int))) := (Chg.setCell (S := fun k => k = nb2) W5 _ _ rfl).trans (Chg.setCell (S := fun k => k = nb2) _ ⟨nb2, n * 36, none⟩ _ rfl) (fun _ _ h => h)
          have hsc : smF (shapeOf len) vals n c = vals j := by
            rw [smF_leaf o vals (by have := HN.out; omega) hnN (by rw [HCt.out]; have := HJ.out; omega) hnl, HSn.out, show min len (i + c) = j by have := HJ.out; omega]
          have hP6 := HPp.out.leafNext hc8 (j : Int) (j : Int) (by rw [HSn.out]; have := HJ.out; omega) (by rw [HRf.out]; have := HJ.out; omega)
          rw [hsc] at hP6
          have hQ6 : ∀ n' o, n' < n → upd (upd (upd (upd M' n (3 + c) (.int .i32 (j : Int))) n (11 + c) (.float .f64 (fl (vals j)))) n (19 + c) (.int .i32 (j : Int))) n 0 (.int .i32 ((c + 1 : Nat) : Int)) n' o = M n' o := fun n' o hn' => by
            unfold upd
            rw [if_neg (by omega), if_neg (by omega), if_neg (by omega), if_neg (by omega)]
            exact HQq.out n' o hn'
          have HRel : Hid (∃ M', Tr ((W5.setCell ⟨nb2, n * 36 + 19 + c, none⟩ (.int .i32 (j : Int))).setCell ⟨nb2, n * 36, none⟩ (.int .i32 ((c + 1 : Nat) : Int))) base tb cb nb2 (n + 1) cap2 M' ∧ Part (shapeOf len) M' (smF (shapeOf len) vals) n (c + 1) true ∧ (∀ n' o, n' < n → M' n' o = M n' o) ∧ Chg (fun k => k = nb2) w2 ((W5.setCell ⟨nb2, n * 36 + 19 + c, none⟩ (.int .i32 (j : Int))).setCell ⟨nb2, n * 36, none⟩ (.int .i32 ((c + 1 : Nat) : Int)))) := ⟨_, hT6, hP6, hQ6, (HCc.out.trans HK5.out (fun _ _ h => h)).trans k6 (fun _ _ h => h)⟩
          clear hT6 hP6 hQ6 k6 hT5 hsc
          have hwc : IntKind.i32.wrap ((c : Int) + 1) = (c : Int) + 1 := by rw [IntKind.wrap_i32]; omega
          go_wp2_with fail
          go_roundw
          case rel =>
            have hr := HRel.out
            rw [Int.natCast_add] at hr
            exact ⟨c + 1, j + 1, by have := HJ.out; omega, by rw [HCt.out]; have := HJ.out; omega, by go_num, hr⟩
          case measure => have := HJ.out; simp [intOf]; omega
        · by_cases hjl : j < len
          · skip
            have e1 : decide ((j : Int) < (len : Int)) = true := by rw [decide_eq_true_iff]; omega
            have e2 : decide ((j : Int) < (i : Int) + 8) = false := by rw [decide_eq_false_iff_not]; rw [hcnt] at hcl; omega
            have hcn : c = (shapeOf len).cnt n := by omega
            have h1n : 1 ≤ n := by have := HN.out; omega
            have hc1 := o.cnt1 n h1n hnN
            have hc8 := o.cnt8 n h1n hnN
            have hxr : ∀ i, Small (smF (shapeOf len) vals n i) := fun i => small_rmin vals HV.out _ _
            have hmr : ∀ k, Small (mn (smF (shapeOf len) vals n) k) := fun k => by
              obtain ⟨z, _, _, hz⟩ := (mn_min (smF (shapeOf len) vals n) k).2
              rw [hz]; exact hxr z
            have HSm := summed_walk wr base tb cb nb2 (n + 1) cap2 n c M' (smF (shapeOf len) vals n) hT (Nat.lt_succ_self n) hP.count (by omega) (by omega) hP.sums hxr hmr
            have HTt : Hid _ := hT
            have HPp : Hid _ := hP
            have HQq : Hid _ := hQ
            have HCc : Hid _ := hC
            have HCn : Hid (c = (shapeOf len).cnt n) := hcn
            have HXr : Hid _ := hxr
            have hlvl : t < 200 := by have := HI.out; omega
            clear hT hP hQ hC hjc hcc hna hnn hcnt hsn href hcl hxr hmr hcn hc1 hc8
            go_wp2_with fail
            refine HSm.mono ?_
            rintro e w3 ⟨rfl, hT6, hc6⟩
            rw [HCn.out, snF_eq o vals h1n hnN] at hT6
            clear HSm
            have hB3 := build_node (o := o) HBd.out HC2.out HNb2.out HR2.out HQq.out HPp.out HCn.out h1n hnN hnl HCc.out hT6 hc6
            have HB3 : Hid _ := hB3
            obtain ⟨i0, hi, hz, hsz, hby⟩ := info_parts info21
            have own : (w3.alloc (.cells #[.int .i32 (n : Int)] 21)).ownsRow base 21 1 u5 t (((List.range t).map fun k => 1 + k).map fun n : Nat => Value.int .i32 (n : Int)) := by
              have := hB3.row.alloc (.cells #[.int .i32 (n : Int)] 21)
              simpa using this
            have news : ∀ k u, [Value.int .i32 (n : Int)][k]? = some u → (w3.alloc (.cells #[.int .i32 (n : Int)] 21)).cell? ((⟨w3.heap.size, 0, none⟩ : Addr).add k) = some u := fun k u hk => by
              rw [show (⟨w3.heap.size, 0, none⟩ : Addr).add k = ⟨w3.heap.size, k, none⟩ by simp [Addr.add, eq_comm], World.cell?_alloc_new]
              simpa using hk
            have hone : ∀ u ∈ [Value.int .i32 (n : Int)], u.oneCell' = true := fun u hu => by rw [List.mem_singleton.1 hu]; rfl
            have hs2 : (w3.alloc (.cells #[.int .i32 (n : Int)] 21)).heap.size = w3.heap.size + 1 := by simp
            have hb2 : base ≤ (w3.alloc (.cells #[.int .i32 (n : Int)] 21)).heap.size := by rw [hs2]; have := hB3.low; omega
            have HO : Hid _ := own
            have HNw : Hid _ := news
            have HOn : Hid _ := hone
            clear hB3 own news hone hT6 hc6
            go_wp2_with (at_builtin; go_loud (refine wpList_append_lies _ rfl (.tmp 92) (.tmp 94) 28 rfl base 21 i0 _ 1 4 Yba.underlying28 hi hz hsz hby rfl (by decide) u5 t _ rfl HO.out ⟨w3.heap.size, 0, none⟩ 1 1 [.int .i32 (n : Int)] rfl rfl HNw.out HOn.out (by decide) (by unfold maxLen; omega) (by omega) hb2 (w3.heap.size + 1) hs2 ?_); intro gl capl w4 hown4 hgrow4 hlie4 hlt4)
            have hB4 := level_next HB3.out (n := n) (g := gl) (cap' := capl) (w' := w4) (by simpa using hown4) ((Chg.alloc _ w3 (.cells #[.int .i32 (n : Int)] 21)).trans (Chg.grown (S := fun k => u5.ownBlock = some k) hgrow4 (fun k e => e)) (fun _ _ h => h)) (by rcases hlie4 with e | e; exact .inl e; exact .inr (by omega))
            have hlc : (List.range (t + 1)).map (fun k => 1 + k) = (List.range t).map (fun k => 1 + k) ++ [n] := by rw [lvl_cons, HN.out]
            rw [← hlc] at hB4
            simp only [List.length_map, List.length_range] at hB4
            have HB4 : Hid _ := hB4
            clear hB4 hown4 hgrow4 hlie4 HO HNw HOn hs2 hb2
            go_wp2_with fail
            go_roundw
            case rel => exact ⟨t + 1, i + 8, n + 1, by have := HI.out; omega, by have := HN.out; omega, by go_num, by omega, cb, nb2, cap2, _, HB4.out⟩
            case measure => simp [intOf]; omega
          · skip
            have e1 : decide ((j : Int) < (len : Int)) = false := by rw [decide_eq_false_iff_not]; omega
            have hcn : c = (shapeOf len).cnt n := by omega
            have h1n : 1 ≤ n := by have := HN.out; omega
            have hc1 := o.cnt1 n h1n hnN
            have hc8 := o.cnt8 n h1n hnN
            have hxr : ∀ i, Small (smF (shapeOf len) vals n i) := fun i => small_rmin vals HV.out _ _
            have hmr : ∀ k, Small (mn (smF (shapeOf len) vals n) k) := fun k => by
              obtain ⟨z, _, _, hz⟩ := (mn_min (smF (shapeOf len) vals n) k).2
              rw [hz]; exact hxr z
            have HSm := summed_walk wr base tb cb nb2 (n + 1) cap2 n c M' (smF (shapeOf len) vals n) hT (Nat.lt_succ_self n) hP.count (by omega) (by omega) hP.sums hxr hmr
            have HTt : Hid _ := hT
            have HPp : Hid _ := hP
            have HQq : Hid _ := hQ
            have HCc : Hid _ := hC
            have HCn : Hid (c = (shapeOf len).cnt n) := hcn
            have HXr : Hid _ := hxr
            have hlvl : t < 200 := by have := HI.out; omega
            clear hT hP hQ hC hjc hcc hna hnn hcnt hsn href hcl hxr hmr hcn hc1 hc8
            go_wp2_with fail
            refine HSm.mono ?_
            rintro e w3 ⟨rfl, hT6, hc6⟩
            rw [HCn.out, snF_eq o vals h1n hnN] at hT6
            clear HSm
            have hB3 := build_node (o := o) HBd.out HC2.out HNb2.out HR2.out HQq.out HPp.out HCn.out h1n hnN hnl HCc.out hT6 hc6
            have HB3 : Hid _ := hB3
            obtain ⟨i0, hi, hz, hsz, hby⟩ := info_parts info21
            have own : (w3.alloc (.cells #[.int .i32 (n : Int)] 21)).ownsRow base 21 1 u5 t (((List.range t).map fun k => 1 + k).map fun n : Nat => Value.int .i32 (n : Int)) := by
              have := hB3.row.alloc (.cells #[.int .i32 (n : Int)] 21)
              simpa using this
            have news : ∀ k u, [Value.int .i32 (n : Int)][k]? = some u → (w3.alloc (.cells #[.int .i32 (n : Int)] 21)).cell? ((⟨w3.heap.size, 0, none⟩ : Addr).add k) = some u := fun k u hk => by
              rw [show (⟨w3.heap.size, 0, none⟩ : Addr).add k = ⟨w3.heap.size, k, none⟩ by simp [Addr.add, eq_comm], World.cell?_alloc_new]
              simpa using hk
            have hone : ∀ u ∈ [Value.int .i32 (n : Int)], u.oneCell' = true := fun u hu => by rw [List.mem_singleton.1 hu]; rfl
            have hs2 : (w3.alloc (.cells #[.int .i32 (n : Int)] 21)).heap.size = w3.heap.size + 1 := by simp
            have hb2 : base ≤ (w3.alloc (.cells #[.int .i32 (n : Int)] 21)).heap.size := by rw [hs2]; have := hB3.low; omega
            have HO : Hid _ := own
            have HNw : Hid _ := news
            have HOn : Hid _ := hone
            clear hB3 own news hone hT6 hc6
            go_wp2_with (at_builtin; go_loud (refine wpList_append_lies _ rfl (.tmp 92) (.tmp 94) 28 rfl base 21 i0 _ 1 4 Yba.underlying28 hi hz hsz hby rfl (by decide) u5 t _ rfl HO.out ⟨w3.heap.size, 0, none⟩ 1 1 [.int .i32 (n : Int)] rfl rfl HNw.out HOn.out (by decide) (by unfold maxLen; omega) (by omega) hb2 (w3.heap.size + 1) hs2 ?_); intro gl capl w4 hown4 hgrow4 hlie4 hlt4)
            have hB4 := level_next HB3.out (n := n) (g := gl) (cap' := capl) (w' := w4) (by simpa using hown4) ((Chg.alloc _ w3 (.cells #[.int .i32 (n : Int)] 21)).trans (Chg.grown (S := fun k => u5.ownBlock = some k) hgrow4 (fun k e => e)) (fun _ _ h => h)) (by rcases hlie4 with e | e; exact .inl e; exact .inr (by omega))
            have hlc : (List.range (t + 1)).map (fun k => 1 + k) = (List.range t).map (fun k => 1 + k) ++ [n] := by rw [lvl_cons, HN.out]
            rw [← hlc] at hB4
            simp only [List.length_map, List.length_range] at hB4
            have HB4 : Hid _ := hB4
            clear hB4 hown4 hgrow4 hlie4 HO HNw HOn hs2 hb2
            go_wp2_with fail
            go_roundw
            case rel => exact ⟨t + 1, i + 8, n + 1, by have := HI.out; omega, by have := HN.out; omega, by go_num, by omega, cb, nb2, cap2, _, HB4.out⟩
            case measure => simp [intOf]; omega
    · have d1 : decide ((i : Int) < (len : Int)) = false := by rw [decide_eq_false_iff_not]; omega
      have htl : t = lv len 1 := by show t = (len + 7) / 8; omega
      have hBs : ∃ hh m : Nat, m = lv len (hh + 1) ∧ hh ≤ topH len ∧ ∃ cb nb cap M, Bld base tb (shapeOf len) vals w (off len hh + m) u5 ((List.range m).map fun k => off len hh + k) wr cb nb cap M := by
        refine ⟨0, t, htl, Nat.zero_le _, cb, nb, cap, M, ?_⟩
        rw [show off len 0 + t = n by show 1 + t = n; exact hn1.symm]
        exact hB
      have HBs : Hid _ := hBs
      clear hBs hB HB1 hi8 hn1 htl
      go_wp2_with fail
      go_loopw [5] (fun lvv wr => ∃ hh m : Nat, m = lv len (hh + 1) ∧ hh ≤ topH len ∧ ∃ cb nb cap M, Bld base tb (shapeOf len) vals w (off len hh + m) lvv ((List.range m).map fun k => off len hh + k) wr cb nb cap M) (fun lvv _ => sliceLen lvv)
      case atStart => exact HBs.out
      case round =>
        clear HBs
        obtain ⟨hh, m, hm, hht, cb, nb, cap, M, hB⟩ := hrel
        have hm0 : 0 < m := by rw [hm]; exact lv_pos h0 _
        obtain ⟨gl, cl, hform, _, _⟩ := hB.row.form (by simpa using hm0)
        simp only [List.length_map, List.length_range] at hform
        subst hform
        have hrow := hB.row
        simp only [List.length_map, List.length_range] at hrow
        have cl0 := hrow.cellAt 0 (by omega)
        by_cases hm1 : 1 < m
        · have d2 : decide ((1 : Int) < (m : Int)) = true := by rw [decide_eq_true_iff]; omega
          have hup : hh + 1 ≤ topH len := not_top h0 hl hht (by rw [← hm]; exact hm1)
          have hB0 : Bld base tb (shapeOf len) vals w (off len (hh + 1)) (.slice none 0 0) [] wr cb nb cap M := by
            rw [show off len (hh + 1) = off len hh + m by rw [hm]; rfl]
            exact ⟨hB.tr, hB.mem, World.ownsRow_nil _ _ _ _, fun k e => (by cases e), hB.cnew, hB.nnew, hB.chg, hB.rest, hB.low⟩
          have hL0 : Lev base tb cb nb w wr (.slice (some ⟨gl, 0, none⟩) m cl) ((List.range m).map fun k => off len hh + k) (.slice none 0 0) := ⟨hB.row, fun k e => ⟨(hB.sep k e).1, (hB.sep k e).2.1, (hB.sep k e).2.2.1, (hB.sep k e).2.2.2, fun e' => (by cases e')⟩⟩
          have HB0 : Hid _ := hB0
          have HL0 : Hid _ := hL0
          have HM : Hid (m = lv len (hh + 1)) := hm
          have hm9 : m < 1000 := by rw [hm]; exact lv_small hl hh
          clear hB hB0 hL0 hrow cl0 hm
          go_wp2_with fail
          go_loopw [11, 12] (fun upv iv wr => ∃ t i n : Nat, i = 8 * t ∧ n = off len (hh + 1) + t ∧ iv = .int .i64 (i : Int) ∧ i < m + 8 ∧ ∃ cb nb cap M, Bld base tb (shapeOf len) vals w n upv ((List.range t).map fun k => off len (hh + 1) + k) wr cb nb cap M ∧ Lev base tb cb nb w wr (.slice (some ⟨gl, 0, none⟩) m cl) ((List.range m).map fun k => off len hh + k) upv) (fun _ iv _ => m + 8 - (intOf iv).toNat)
          case atStart => exact ⟨0, 0, off len (hh + 1), rfl, rfl, rfl, by omega, cb, nb, cap, M, HB0.out, HL0.out⟩
          case round =>
            clear HB0 HL0
            obtain ⟨t, i, n, hi8, hn1, rfl, ht, cb, nb, cap, M, hB, hLv⟩ := hrel
            by_cases hlt : i < m
            · have d1 : decide ((i : Int) < (m : Int)) = true := by rw [decide_eq_true_iff]; omega
              have HI : Hid (i = 8 * t) := hi8
              have HN : Hid (n = off len (hh + 1) + t) := hn1
              have htl : t < lv len (hh + 1 + 1) := by show t < (lv len (hh + 1) + 7) / 8; have := HM.out; omega
              have hb9 := node_lt len (hh + 1) t h0 hl hup htl
              rw [← hn1] at hb9
              have hnN : n < (shapeOf len).N := hb9.2
              have hn9 : n < 900 := by have := o.small; have h3 : (shapeOf len).N ≤ 900 := shapeN len hl; omega
              have hwn : IntKind.i32.wrap (n : Int) = (n : Int) := by rw [IntKind.wrap_i32]; omega
              have hin : (i : Int) < 2000 := by omega
              have HTl : Hid (t < lv len (hh + 1 + 1)) := htl
              clear hi8 hn1 htl
              have HAd := add_walk wr base tb cb nb n cap M hB.tr hn9 hB.low
              have HBd : Hid _ := hB
              have HLv : Hid _ := hLv
              clear hB hLv
              go_wp2_with (first | (go_at_call 17; refine HAd.mono ?_; rintro e w2 ⟨nb2, cap2, rfl, hT2, hc2, hnb2, hrest2⟩))
              have hP2 := part_new (shapeOf len) M (smF (shapeOf len) vals) n
              have hQ2 : ∀ n' o, n' < n → grow M n n' o = M n' o := fun n' o hn' => by unfold grow; rw [if_neg (by omega)]
              have HSt : Hid (∃ M', Tr w2 base tb cb nb2 (n + 1) cap2 M' ∧ Part (shapeOf len) M' (smF (shapeOf len) vals) n 0 false ∧ (∀ n' o, n' < n → M' n' o = M n' o) ∧ Chg (fun k => k = nb2) w2 w2) := ⟨_, hT2, hP2, hQ2, Chg.refl _ _⟩
              have HC2 : Hid _ := hc2
              have HNb2 : Hid _ := hnb2
              have HR2 : Hid _ := hrest2
              clear hT2 hc2 hnb2 hrest2 HAd hP2 hQ2
              go_loopw [14] (fun jv wr2 => ∃ c j : Nat, j = i + c ∧ c ≤ (shapeOf len).cnt n ∧ jv = .int .i64 (j : Int) ∧ ∃ M', Tr wr2 base tb cb nb2 (n + 1) cap2 M' ∧ Part (shapeOf len) M' (smF (shapeOf len) vals) n c false ∧ (∀ n' o, n' < n → M' n' o = M n' o) ∧ Chg (fun k => k = nb2) w2 wr2) (fun jv _ => i + 8 - (intOf jv).toNat)
              case atStart => exact ⟨0, i, rfl, Nat.zero_le _, rfl, HSt.out⟩
              case round =>
                clear HSt
                obtain ⟨c, j, hjc, hcc, rfl, M', hT, hP, hQ, hC⟩ := hrel
                have hbr := branch_at hup HTl.out HN.out HI.out HM.out
                have hnl := hbr.1
                have HCt : Hid ((shapeOf len).cnt n = min 8 (m - i)) := hbr.2.1
                have HRf : Hid _ := hbr.2.2
                have HJ : Hid (j = i + c) := hjc
                have h1n : 1 ≤ n := hb9.1
                have c0 := hT.at (Nat.lt_succ_self n) (show 0 < 36 by decide)
                rw [hP.count, Nat.add_zero] at c0
                have HNd := node_walk wr base tb cb nb2 (n + 1) cap2 n M' hT (Nat.lt_succ_self n)
                have hLr : Lev base tb cb nb2 w wr (.slice (some ⟨gl, 0, none⟩) m cl) ((List.range m).map fun k => off len hh + k) (.slice none 0 0) := HLv.out.next0 HC2.out HNb2.out hC
                clear hbr
                by_cases hcl : c < (shapeOf len).cnt n
                · have hjm : j < m := by have := HCt.out; omega
                  have hc8 : c < 8 := by have := HCt.out; omega
                  have e1 : decide ((j : Int) < (m : Int)) = true := by rw [decide_eq_true_iff]; omega
                  have e2 : decide ((j : Int) < (i : Int) + 8) = true := by rw [decide_eq_true_iff]; omega
                  have hci0 : (0 : Int) ≤ (c : Int) := by omega
                  have hci8 : (c : Int) < 8 := by omega
                  have hwc : IntKind.i64.wrap (c : Int) = (c : Int) := by rw [IntKind.wrap_i64]; omega
                  have hji0 : (0 : Int) ≤ (j : Int) := by omega
                  have hjil : (j : Int) < (m : Int) := by omega
                  obtain ⟨ch, hch⟩ : ∃ ch, ch = off len hh + j := ⟨_, rfl⟩
                  obtain ⟨hk0, hF, hk, hx⟩ := kid_facts o HBd.out.mem hQ h1n hnN hnl hcl ch (by rw [HRf.out, hch, hjc])
                  obtain ⟨kk, hkk⟩ : ∃ kk : Int, kk = ((shapeOf len).s n (c + 1) : Int) - 1 := ⟨_, rfl⟩
                  obtain ⟨xx, hxx⟩ : ∃ xx : Nat, xx = fl (smF (shapeOf len) vals n c) := ⟨_, rfl⟩
                  rw [← hkk] at hk
                  rw [← hxx] at hx
                  have HE := entryOf_walk wr.drew base tb cb nb2 (n + 1) cap2 ch _ M' kk xx hT.drew (by omega) hF hk hx
                  have HPl : Hid (∀ w5 z, Tr w5 base tb cb nb2 (n + 1) cap2 M' → Calls Yba.prog 19 #[.pointer (some ⟨nb2, n * 36, none⟩), .int .i64 c, .agg #[.int .i32 kk, .float .f64 xx, .int .i32 ch, .int .i32 z]] w5 (SetPost base tb cb nb2 (n + 1) cap2 (placeM M' n c kk xx ch z) w5)) := fun w5 z hT5 => place_walk w5 base tb cb nb2 (n + 1) cap2 n c M' kk xx ch z hT5 (Nat.lt_succ_self n) hc8 hP.owed
                  have clj : wr.cell? ⟨gl, j, none⟩ = some (.int .i32 (ch : Int)) := by
                    have hr := hLr.row
                    simp only [List.length_map, List.length_range] at hr
                    rw [hr.cellAt j (by omega)]
                    simp [hjm, hch]
                  have hgn : gl ≠ nb2 := (hLr.sep gl rfl).2.2.1
                  have hgl : gl < wr.heap.size := (hLr.row.lt gl rfl).2
                  have HTt : Hid _ := hT
                  have HPp : Hid _ := hP
                  have HQq : Hid _ := hQ
                  have HCc : Hid _ := hC
                  have HKk : Hid (kk = _) := hkk
                  have HXx : Hid (xx = _) := hxx
                  have HCh : Hid (ch = _) := hch
                  have HCl : Hid _ := clj
                  have HC0 : Hid _ := c0
                  clear hT hP hQ hC hjc hcc hLr hF hk hx hkk hxx hch hcl
                  go_wp2_with fail
                  refine HNd.mono ?_
                  rintro e w' ⟨rfl, hw'⟩
                  have hw' := hw'.symm
                  subst hw'
                  clear HNd
                  go_wp2_with fail
                  go_region_held3 (fun w' => w'.cell? ⟨nb2, n * 36, none⟩ = some (.int .i32 (c : Int)) ∧ w'.cell? ⟨gl, j, none⟩ = some (.int .i32 (ch : Int)))
                    (first
                      | (exact ⟨by rw [World.cell?_drew]; exact HC0.out, by rw [World.cell?_drew]; exact HCl.out⟩)
                      | (exact hs6.out)
                      | (exact hs5.out))
                    (first
                      | (go_at_call 20; refine HE.mono ?_; rintro e w5 ⟨z, rfl, hT5, hC5⟩; have hs5 : Hid (w5.cell? ⟨nb2, n * 36, none⟩ = some (.int .i32 (c : Int)) ∧ w5.cell? ⟨gl, j, none⟩ = some (.int .i32 (ch : Int))) := ⟨by rw [hC5.cell (p := ⟨nb2, n * 36, none⟩) HTt.out.drew.ltn id, World.cell?_drew]; exact HC0.out, by rw [hC5.cell (p := ⟨gl, j, none⟩) hgl id, World.cell?_drew]; exact HCl.out⟩; have HT5 : Hid _ := hT5; have HC5 : Hid _ := hC5; clear hT5 hC5)
                      | (go_at_call 19; refine (HPl.out _ _ HT5.out).mono ?_; rintro e w6 ⟨rfl, hT6, hC6⟩; have hs6 : Hid (w6.cell? ⟨nb2, n * 36, none⟩ = some (.int .i32 (c : Int)) ∧ w6.cell? ⟨gl, j, none⟩ = some (.int .i32 (ch : Int))) := ⟨by have h6 := hT6.at (Nat.lt_succ_self n) (show 0 < 36 by decide); rw [Nat.add_zero] at h6; rw [h6]; unfold placeM upd; rw [if_neg (by omega), if_neg (by omega), if_neg (by omega), if_neg (by omega), if_neg (by omega), HPp.out.count], by rw [hC6.cell (p := ⟨gl, j, none⟩) (Nat.lt_of_lt_of_le hgl HC5.out.size) hgn]; exact hs5.out.2⟩; have HT6 : Hid _ := hT6; have HC6 : Hid _ := hC6; clear hT6 hC6))
                  rename_i hHeld
                  clear hHeld HE HPl
                  have c06 := hs6.out.1
                  have sf6 := HT6.out.softn (n * 36)
                  have hT7 := HT6.out.set (n := n) (o := 0) (by decide) (.int .i32 ((c + 1 : Nat) : Int))
                  rw [Nat.add_zero] at hT7
                  have hP7 := HPp.out.branchNext hc8 kk ch z HKk.out (by rw [HRf.out, HCh.out, HJ.out])
                  rw [← HXx.out] at hP7
                  have hQ7 : ∀ n' o, n' < n → upd (placeM M' n c kk xx ch z) n 0 (.int .i32 ((c + 1 : Nat) : Int)) n' o = M n' o := fun n' o hn' => by
                    unfold placeM upd
                    rw [if_neg (by omega), if_neg (by omega), if_neg (by omega), if_neg (by omega), if_neg (by omega), if_neg (by omega)]
                    exact HQq.out n' o hn'
                  have k7 : Chg (fun k => k = nb2) w2 (w6.setCell ⟨nb2, n * 36, none⟩ (.int .i32 ((c + 1 : Nat) : Int))) := (((HCc.out.trans (Chg.drew _ wr) (fun _ _ h => h)).trans HC5.out (fun _ _ h => h.elim)).trans HC6.out (fun _ _ h => h)).trans (Chg.setCell (S := fun k => k = nb2) w6 ⟨nb2, n * 36, none⟩ _ rfl) (fun _ _ h => h)
                  have HRel : Hid (∃ M', Tr (w6.setCell ⟨nb2, n * 36, none⟩ (.int .i32 ((c + 1 : Nat) : Int))) base tb cb nb2 (n + 1) cap2 M' ∧ Part (shapeOf len) M' (smF (shapeOf len) vals) n (c + 1) false ∧ (∀ n' o, n' < n → M' n' o = M n' o) ∧ Chg (fun k => k = nb2) w2 (w6.setCell ⟨nb2, n * 36, none⟩ (.int .i32 ((c + 1 : Nat) : Int)))) := ⟨_, hT7, hP7, hQ7, k7⟩
                  clear hT7 hP7 hQ7 k7 c0 clj
                  have hwc1 : IntKind.i32.wrap ((c : Int) + 1) = (c : Int) + 1 := by rw [IntKind.wrap_i32]; omega
                  go_wp2_with fail
                  go_roundw
                  case rel =>
                    have hr := HRel.out
                    rw [Int.natCast_add] at hr
                    exact ⟨c + 1, j + 1, by have := HJ.out; omega, by rw [HCt.out]; have := HJ.out; omega, by go_num, hr⟩
                  case measure => have := HJ.out; simp [intOf]; omega
                · by_cases hjl : j < m
                  · skip
                    have e1 : decide ((j : Int) < (m : Int)) = true := by rw [decide_eq_true_iff]; omega
                    have e2 : decide ((j : Int) < (i : Int) + 8) = false := by rw [decide_eq_false_iff_not]; have := HCt.out; omega
                    have hcn : c = (shapeOf len).cnt n := by omega
                    have hc1 := o.cnt1 n h1n hnN
                    have hc8 := o.cnt8 n h1n hnN
                    have hxr : ∀ i, Small (smF (shapeOf len) vals n i) := fun i => small_rmin vals HV.out _ _
                    have hmr : ∀ k, Small (mn (smF (shapeOf len) vals n) k) := fun k => by
                      obtain ⟨z, _, _, hz⟩ := (mn_min (smF (shapeOf len) vals n) k).2
                      rw [hz]; exact hxr z
                    have HSm := summed_walk wr base tb cb nb2 (n + 1) cap2 n c M' (smF (shapeOf len) vals n) hT (Nat.lt_succ_self n) hP.count (by omega) (by omega) hP.sums hxr hmr
                    have HTt : Hid _ := hT
                    have HPp : Hid _ := hP
                    have HQq : Hid _ := hQ
                    have HCc : Hid _ := hC
                    have HCn : Hid (c = (shapeOf len).cnt n) := hcn
                    have hlvl : t < 200 := by have := HI.out; omega
                    clear hT hP hQ hC hjc hcc hcl hxr hmr hcn hc1 hc8 hLr c0
                    go_wp2_with fail
                    refine HNd.mono ?_
                    rintro e w' ⟨rfl, hw'⟩
                    have hw' := hw'.symm
                    subst hw'
                    clear HNd
                    go_wp2_with fail
                    refine HSm.mono ?_
                    rintro e w3 ⟨rfl, hT6, hc6⟩
                    rw [HCn.out, snF_eq o vals h1n hnN] at hT6
                    clear HSm
                    have hB3 := build_node (o := o) HBd.out HC2.out HNb2.out HR2.out HQq.out HPp.out HCn.out h1n hnN hnl HCc.out hT6 hc6
                    have HB3 : Hid _ := hB3
                    have HC6 : Hid _ := hc6
                    obtain ⟨i0, hi, hz, hsz, hby⟩ := info_parts info21
                    have own : (w3.alloc (.cells #[.int .i32 (n : Int)] 21)).ownsRow base 21 1 u11 t (((List.range t).map fun k => off len (hh + 1) + k).map fun n : Nat => Value.int .i32 (n : Int)) := by
                      have := hB3.row.alloc (.cells #[.int .i32 (n : Int)] 21)
                      simpa using this
                    have news : ∀ k u, [Value.int .i32 (n : Int)][k]? = some u → (w3.alloc (.cells #[.int .i32 (n : Int)] 21)).cell? ((⟨w3.heap.size, 0, none⟩ : Addr).add k) = some u := fun k u hk => by
                      rw [show (⟨w3.heap.size, 0, none⟩ : Addr).add k = ⟨w3.heap.size, k, none⟩ by simp [Addr.add, eq_comm], World.cell?_alloc_new]
                      simpa using hk
                    have hone : ∀ u ∈ [Value.int .i32 (n : Int)], u.oneCell' = true := fun u hu => by rw [List.mem_singleton.1 hu]; rfl
                    have hs2 : (w3.alloc (.cells #[.int .i32 (n : Int)] 21)).heap.size = w3.heap.size + 1 := by simp
                    have hb2 : base ≤ (w3.alloc (.cells #[.int .i32 (n : Int)] 21)).heap.size := by rw [hs2]; have := hB3.low; omega
                    have HO : Hid _ := own
                    have HNw : Hid _ := news
                    have HOn : Hid _ := hone
                    clear hB3 own news hone hT6 hc6
                    go_wp2_with (at_builtin; go_loud (refine wpList_append_lies _ rfl (.tmp 152) (.tmp 154) 28 rfl base 21 i0 _ 1 4 Yba.underlying28 hi hz hsz hby rfl (by decide) u11 t _ rfl HO.out ⟨w3.heap.size, 0, none⟩ 1 1 [.int .i32 (n : Int)] rfl rfl HNw.out HOn.out (by decide) (by unfold maxLen; omega) (by omega) hb2 (w3.heap.size + 1) hs2 ?_); intro gl2 capl w4 hown4 hgrow4 hlie4 hlt4)
                    have hc4 : Chg (fun k => u11.ownBlock = some k) w3 w4 := (Chg.alloc _ w3 (.cells #[.int .i32 (n : Int)] 21)).trans (Chg.grown (S := fun k => u11.ownBlock = some k) hgrow4 (fun k e => e)) (fun _ _ h => h)
                    have hg4 : u11.ownBlock = some gl2 ∨ w3.heap.size ≤ gl2 := by rcases hlie4 with e | e; exact .inl e; exact .inr (by omega)
                    have hB4 := level_next HB3.out (n := n) (g := gl2) (cap' := capl) (w' := w4) (by simpa using hown4) hc4 hg4
                    have hlc : (List.range (t + 1)).map (fun k => off len (hh + 1) + k) = (List.range t).map (fun k => off len (hh + 1) + k) ++ [n] := by rw [lvl_cons2, HN.out]
                    rw [← hlc] at hB4
                    simp only [List.length_map, List.length_range] at hB4
                    have hL4 := HLv.out.next HC2.out HNb2.out (HCc.out.trans HC6.out (fun _ _ h => h)) hc4 hg4 (t + 1) capl
                    have HB4 : Hid _ := hB4
                    have HL4 : Hid _ := hL4
                    clear hB4 hL4 hc4 hg4 hown4 hgrow4 hlie4 HO HNw HOn hs2 hb2
                    go_wp2_with fail
                    go_roundw
                    case rel => exact ⟨t + 1, i + 8, n + 1, by have := HI.out; omega, by have := HN.out; omega, by go_num, by omega, cb, nb2, cap2, _, HB4.out, HL4.out⟩
                    case measure => simp [intOf]; omega
                  · skip
                    have e1 : decide ((j : Int) < (m : Int)) = false := by rw [decide_eq_false_iff_not]; omega
                    have hcn : c = (shapeOf len).cnt n := by omega
                    have hc1 := o.cnt1 n h1n hnN
                    have hc8 := o.cnt8 n h1n hnN
                    have hxr : ∀ i, Small (smF (shapeOf len) vals n i) := fun i => small_rmin vals HV.out _ _
                    have hmr : ∀ k, Small (mn (smF (shapeOf len) vals n) k) := fun k => by
                      obtain ⟨z, _, _, hz⟩ := (mn_min (smF (shapeOf len) vals n) k).2
                      rw [hz]; exact hxr z
                    have HSm := summed_walk wr base tb cb nb2 (n + 1) cap2 n c M' (smF (shapeOf len) vals n) hT (Nat.lt_succ_self n) hP.count (by omega) (by omega) hP.sums hxr hmr
                    have HTt : Hid _ := hT
                    have HPp : Hid _ := hP
                    have HQq : Hid _ := hQ
                    have HCc : Hid _ := hC
                    have HCn : Hid (c = (shapeOf len).cnt n) := hcn
                    have hlvl : t < 200 := by have := HI.out; omega
                    clear hT hP hQ hC hjc hcc hcl hxr hmr hcn hc1 hc8 hLr c0
                    go_wp2_with fail
                    refine HNd.mono ?_
                    rintro e w' ⟨rfl, hw'⟩
                    have hw' := hw'.symm
                    subst hw'
                    clear HNd
                    go_wp2_with fail
                    refine HSm.mono ?_
                    rintro e w3 ⟨rfl, hT6, hc6⟩
                    rw [HCn.out, snF_eq o vals h1n hnN] at hT6
                    clear HSm
                    have hB3 := build_node (o := o) HBd.out HC2.out HNb2.out HR2.out HQq.out HPp.out HCn.out h1n hnN hnl HCc.out hT6 hc6
                    have HB3 : Hid _ := hB3
                    have HC6 : Hid _ := hc6
                    obtain ⟨i0, hi, hz, hsz, hby⟩ := info_parts info21
                    have own : (w3.alloc (.cells #[.int .i32 (n : Int)] 21)).ownsRow base 21 1 u11 t (((List.range t).map fun k => off len (hh + 1) + k).map fun n : Nat => Value.int .i32 (n : Int)) := by
                      have := hB3.row.alloc (.cells #[.int .i32 (n : Int)] 21)
                      simpa using this
                    have news : ∀ k u, [Value.int .i32 (n : Int)][k]? = some u → (w3.alloc (.cells #[.int .i32 (n : Int)] 21)).cell? ((⟨w3.heap.size, 0, none⟩ : Addr).add k) = some u := fun k u hk => by
                      rw [show (⟨w3.heap.size, 0, none⟩ : Addr).add k = ⟨w3.heap.size, k, none⟩ by simp [Addr.add, eq_comm], World.cell?_alloc_new]
                      simpa using hk
                    have hone : ∀ u ∈ [Value.int .i32 (n : Int)], u.oneCell' = true := fun u hu => by rw [List.mem_singleton.1 hu]; rfl
                    have hs2 : (w3.alloc (.cells #[.int .i32 (n : Int)] 21)).heap.size = w3.heap.size + 1 := by simp
                    have hb2 : base ≤ (w3.alloc (.cells #[.int .i32 (n : Int)] 21)).heap.size := by rw [hs2]; have := hB3.low; omega
                    have HO : Hid _ := own
                    have HNw : Hid _ := news
                    have HOn : Hid _ := hone
                    clear hB3 own news hone hT6 hc6
                    go_wp2_with (at_builtin; go_loud (refine wpList_append_lies _ rfl (.tmp 152) (.tmp 154) 28 rfl base 21 i0 _ 1 4 Yba.underlying28 hi hz hsz hby rfl (by decide) u11 t _ rfl HO.out ⟨w3.heap.size, 0, none⟩ 1 1 [.int .i32 (n : Int)] rfl rfl HNw.out HOn.out (by decide) (by unfold maxLen; omega) (by omega) hb2 (w3.heap.size + 1) hs2 ?_); intro gl2 capl w4 hown4 hgrow4 hlie4 hlt4)
                    have hc4 : Chg (fun k => u11.ownBlock = some k) w3 w4 := (Chg.alloc _ w3 (.cells #[.int .i32 (n : Int)] 21)).trans (Chg.grown (S := fun k => u11.ownBlock = some k) hgrow4 (fun k e => e)) (fun _ _ h => h)
                    have hg4 : u11.ownBlock = some gl2 ∨ w3.heap.size ≤ gl2 := by rcases hlie4 with e | e; exact .inl e; exact .inr (by omega)
                    have hB4 := level_next HB3.out (n := n) (g := gl2) (cap' := capl) (w' := w4) (by simpa using hown4) hc4 hg4
                    have hlc : (List.range (t + 1)).map (fun k => off len (hh + 1) + k) = (List.range t).map (fun k => off len (hh + 1) + k) ++ [n] := by rw [lvl_cons2, HN.out]
                    rw [← hlc] at hB4
                    simp only [List.length_map, List.length_range] at hB4
                    have hL4 := HLv.out.next HC2.out HNb2.out (HCc.out.trans HC6.out (fun _ _ h => h)) hc4 hg4 (t + 1) capl
                    have HB4 : Hid _ := hB4
                    have HL4 : Hid _ := hL4
                    clear hB4 hL4 hc4 hg4 hown4 hgrow4 hlie4 HO HNw HOn hs2 hb2
                    go_wp2_with fail
                    go_roundw
                    case rel => exact ⟨t + 1, i + 8, n + 1, by have := HI.out; omega, by have := HN.out; omega, by go_num, by omega, cb, nb2, cap2, _, HB4.out, HL4.out⟩
                    case measure => simp [intOf]; omega
            · have d1 : decide ((i : Int) < (m : Int)) = false := by rw [decide_eq_false_iff_not]; omega
              have htl : t = lv len (hh + 1 + 1) := by show t = (lv len (hh + 1) + 7) / 8; have := HM.out; omega
              have HNx : Hid (∃ hh' m' : Nat, m' = lv len (hh' + 1) ∧ hh' ≤ topH len ∧ ∃ cb nb cap M, Bld base tb (shapeOf len) vals w (off len hh' + m') u11 ((List.range m').map fun k => off len hh' + k) wr cb nb cap M) := ⟨hh + 1, t, htl, hup, cb, nb, cap, M, by rw [← hn1]; exact hB⟩
              have HSl : Hid (sliceLen u11 < m) := by
                have hr := hB.row
                show sliceLen u11 < m
                have ht2 : t < m := by omega
                rcases hr.2 with ⟨e1, e2⟩ | ⟨g, c, _, e1, _⟩
                · rw [e1]; show 0 < m; omega
                · rw [e1]; show ((List.range t).map _).length < m; simpa using ht2
              clear hB hLv hi8 hn1 htl
              go_wp2_with fail
              go_roundw
              case rel => exact HNx.out
              case measure => exact HSl.out
        · have d2 : decide ((1 : Int) < (m : Int)) = false := by rw [decide_eq_false_iff_not]; omega
          have hmm : m = 1 := by omega
          have htop := top_of hht (by rw [← hm]; omega)
          subst htop
          have hT := hB.tr
          have hMm := hB.mem
          have hR : Tr wr base tb cb nb (shapeOf len).N cap M := by rw [show (shapeOf len).N = off len (topH len) + m by rw [hmm]; rfl]; exact hT
          have hMe : Mem (shapeOf len) M (smF (shapeOf len) vals) (snF (shapeOf len) vals) := MemTo.mem (by rw [show (shapeOf len).N = off len (topH len) + m by rw [hmm]; rfl]; exact hMm)
          have HPo : Hid (BuildPost base tb (shapeOf len) vals w (.returned (.int .i32 ((off len (topH len) : Nat) : Int))) wr) := ⟨cb, nb, cap, M, rfl, hR, hMe, hB.chg, hB.rest, hB.cnew, hB.nnew⟩
          have hc0 : wr.cell? ⟨gl, 0, none⟩ = some (.int .i32 ((off len (topH len) : Nat) : Int)) := by rw [cl0, hmm]; rfl
          have hmi : (0 : Int) < (m : Int) := by omega
          clear hT hMm hR hMe hB cl0 hm hmm hm1 hrow
          go_wp2_with fail
          go_ret
          exact HPo.out
end Go.Proofs.Ybulkbuhe
