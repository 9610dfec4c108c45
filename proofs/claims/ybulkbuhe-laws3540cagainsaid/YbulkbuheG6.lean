/-
  LawS3540CAgain: what lies behind leastFirst.
-/
import Derived.Test.YbulkbuheG5
namespace Go.Proofs.Ybulkbuhe
open Go.RowKit Fl

theorem run_built2 {base : Nat} (C : Client base) (w0 w1 w2 : World) (e0 : Ending) (tb len : Nat) (key : Int) (vals : Nat → Int) (F : Nat → Prop) (h0 : 1 ≤ len) (hl : len ≤ 1024) (hv : ∀ j, 0 ≤ vals j ∧ vals j ≤ 255)
    (t5 : w0.cell? ⟨tb, 5, none⟩ = some (.slice none 0 0)) (t6 : w0.cell? ⟨tb, 6, none⟩ = some (.slice none 0 0)) (hB : BuildPost base tb (shapeOf len) vals w0 e0 w1) (hb : base ≤ w1.heap.size)
    (hc : Chg (fun _ => False) w1 w2) (hE : C.E ⟨0, []⟩ F w2) (hF : ∀ k, F k → (k < w0.heap.size ∧ k ≠ tb) ∨ w1.heap.size ≤ k) (hFb : ∀ k, F k → base ≤ k) (hext : ∀ j, 0 ≤ C.ext j ∧ C.ext j ≤ 255) (hgood : ∀ l, Good len vals C.ext l → C.good l) :
    Calls Yba.prog 6 #[.pointer (some ⟨tb, 0, none⟩), .int .i32 (shapeOf len).root, .int .i32 key, .func (.func C.fv) #[] #[], .func (.func C.fb) #[] C.cb, .func (.func C.fn) #[] C.cn, .func (.func C.fs) #[] C.cs, .iface 45 (.agg #[])] w2 (RunPost C tb len key vals w2) := by
  have o := shape_ok h0 hl
  obtain ⟨cb, nb, cap, M, _, hT, hM, hch, hrest, hcb, hnb⟩ := hB
  have l1 := hT.ltt
  have l2 := hT.ltc
  have l3 := hT.ltn
  have y : Sys C (shapeOf len) w2 tb cb nb cap (smF (shapeOf len) vals) (snF (shapeOf len) vals) (.slice none 0 0) [] ⟨0, []⟩ F :=
    ⟨⟨M, hT.chg hc id id id, hM⟩, World.ownsRow_nil _ _ _ _, hE, fun j _ h => absurd h (Nat.not_lt_zero _), fun x hx => (by cases hx), fun k e => (by cases e), fun e => by have := hF _ e; omega, fun e => by have := hF _ e; omega, fun e => by have := hF _ e; omega, Nat.le_trans hb hc.size⟩
  refine (leastFirst_walk C (shapeOf len) o w2 tb cb nb cap _ _ key vals F y ?_ ?_ hv hext (fun n i a b c d => smF_leaf o vals a b c d) (fun n i a b c _ => smF_min o vals a b c) (snF_root o vals) hgood).mono ?_
  · exact (hc.cell (p := ⟨tb, 5, none⟩) l1 id).trans ((hrest 5 (by decide) (by decide)).trans t5)
  · exact (hc.cell (p := ⟨tb, 6, none⟩) l1 id).trans ((hrest 6 (by decide) (by decide)).trans t6)
  · rintro e w' ⟨sm', sn', tr, F', he, hm, hE', hg, hf, hs, hlf, hr, hcc, _⟩
    refine ⟨sm', sn', tr, F', cb, nb, cap, he, hm, hE', hg, hf, hs, hlf, hr, hcc.mono (fun k _ h => ?_)⟩
    rcases h with h | h | h
    · rw [h]; exact hT.bnb
    · rw [h]; exact hT.btb
    · exact hFb k h

/-- The rows that 'make' lays. -/
theorem fixRow {w' : World} {base s n len : Nat} (h : n = s) (hr : w'.ownsRow base 4 1 (.slice (some ⟨n, 0, none⟩) len len) len (madeCells (Value.bool false).cells (len * 1)).toList) : w'.ownsRow base 4 1 (.slice (some ⟨s, 0, none⟩) len len) len (List.replicate len (.bool false)) := by
  subst h
  rw [show Value.cells (.bool false) = #[.bool false] from rfl, toList_madeCells_one, Nat.mul_one] at hr
  exact hr
/-- The least so far. -/
def lmF (cur : Nat → Int) : Nat → Nat
  | 0 => 0
  | k + 1 => fl (mn cur k)
/-- What lies behind leastFirst. -/
structure Bft (base : Nat) (c : Blk) (bar : Int) (x : Addr) (len cap : Nat) (vals : Nat → Int) (ax : Option Addr) (lenx capx : Nat) (ext : Nat → Int) (key : Int) (tb : Nat) (w0 : World) (tr : List Vis) (sm : Nat → Nat → Int) (sn : Nat → Int) (cb nb cp : Nat) (M : Nat → Nat → Value) (w : World) : Prop where
  good : Good len vals ext tr
  fst : ∀ j : Nat, fstN tr j = if key < j ∧ j < len ∧ vals j < bar then 1 else 0
  snd : ∀ j : Nat, sndN tr j = if key < j ∧ j < len ∧ vals j < bar ∧ 0 < ext j ∧ vals j + ext j < bar then 1 else 0
  tre : Tr w base tb cb nb (shapeOf len).N cp M
  mem : Mem (shapeOf len) M sm sn
  leaf : ∀ n i, 1 ≤ n → n < (shapeOf len).N → i < (shapeOf len).cnt n → (shapeOf len).leaf n = true → sm n i = curOf vals ext tr ((shapeOf len).s n i)
  root : IsMin (curOf vals ext tr) 0 len (sn (shapeOf len).root)
  fix : Fix base c bar x len cap vals ax lenx capx ext w
  var : Var base c len tr w
  below : Below base w0 w
section
variable {base : Nat} {c : Blk} {bar : Int} {x : Addr} {len cap : Nat} {vals : Nat → Int} {ax : Option Addr} {lenx capx : Nat} {ext : Nat → Int} {key : Int} {tb : Nat} {w0 : World} {tr : List Vis} {sm : Nat → Nat → Int} {sn : Nat → Int} {cb nb cp : Nat} {M : Nat → Nat → Value} {w : World}
theorem Bft.cur (b : Bft base c bar x len cap vals ax lenx capx ext key tb w0 tr sm sn cb nb cp M w) {j : Nat} (hj : j < len) : curOf vals ext tr j = if key < j ∧ vals j < bar then vals j + ext j else vals j := by
  unfold curOf
  rw [b.fst j]
  by_cases h : key < (j : Int) ∧ vals j < bar
  · rw [if_pos h, if_pos (show key < (j : Int) ∧ j < len ∧ vals j < bar from ⟨h.1, hj, h.2⟩), if_pos (by decide)]
  · rw [if_neg h, if_neg (show ¬ (key < (j : Int) ∧ j < len ∧ vals j < bar) from fun e => h ⟨e.1, e.2.2⟩), if_neg (by decide)]
theorem Bft.cnt1 (b : Bft base c bar x len cap vals ax lenx capx ext key tb w0 tr sm sn cb nb cp M w) {j : Nat} (hj : j < len) : cntF tr (j + 1) = if key < j ∧ vals j < bar then cntF tr j + 1 else cntF tr j := by
  rw [cntF_succ, b.fst]
  by_cases h : key < (j : Int) ∧ vals j < bar
  · rw [if_pos ⟨h.1, hj, h.2⟩, if_pos h]
  · rw [if_neg (fun e => h ⟨e.1, e.2.2⟩), if_neg h]; rfl
theorem Bft.cnt2 (b : Bft base c bar x len cap vals ax lenx capx ext key tb w0 tr sm sn cb nb cp M w) {j : Nat} (hj : j < len) : cntS tr (j + 1) = if key < j ∧ vals j < bar ∧ 0 < ext j ∧ vals j + ext j < bar then cntS tr j + 1 else cntS tr j := by
  rw [cntS_succ, b.snd]
  by_cases h : key < (j : Int) ∧ vals j < bar ∧ 0 < ext j ∧ vals j + ext j < bar
  · rw [if_pos ⟨h.1, hj, h.2⟩, if_pos h]
  · rw [if_neg (fun e => h ⟨e.1, e.2.2⟩), if_neg h]; rfl
/-- The leaf's entry of item j. -/
theorem Bft.cell (b : Bft base c bar x len cap vals ax lenx capx ext key tb w0 tr sm sn cb nb cp M w) (o : (shapeOf len).Ok) {j : Nat} (hj : j < len) : 1 + j / 8 < (shapeOf len).N ∧ w.cell? ⟨nb, (1 + j / 8) * 36 + 11 + j % 8, none⟩ = some (.float .f64 (fl (curOf vals ext tr j))) := by
  obtain ⟨h1, h2, h3, h4⟩ := o.leafat j hj
  refine ⟨h1, ?_⟩
  rw [Nat.add_assoc, b.tre.at h1 (show 11 + j % 8 < 36 by omega), b.mem.sums _ _ (by omega) h1 h3, b.leaf _ _ (by omega) h1 h3 h2, h4]
theorem Bft.rootCell (b : Bft base c bar x len cap vals ax lenx capx ext key tb w0 tr sm sn cb nb cp M w) (o : (shapeOf len).Ok) (h0 : 1 ≤ len) : (shapeOf len).root < (shapeOf len).N ∧ w.cell? ⟨nb, (shapeOf len).root * 36 + 27, none⟩ = some (.float .f64 (lmF (curOf vals ext tr) len)) := by
  have kN : (shapeOf len).root < (shapeOf len).N := by have := o.rootN; omega
  refine ⟨kN, ?_⟩
  rw [b.tre.at kN (show 27 < 36 by decide), b.mem.sum _ o.root1 kN]
  obtain ⟨k, hk⟩ : ∃ k, len = k + 1 := ⟨len - 1, by omega⟩
  have h1 := mn_min (curOf vals ext tr) k
  have h2 := b.root
  rw [← hk] at h1
  have h3 : lmF (curOf vals ext tr) len = fl (mn (curOf vals ext tr) k) := by rw [hk]; rfl
  rw [h3, h2.eq h1]
theorem cur_range (hv : ∀ j, 0 ≤ vals j ∧ vals j ≤ 255) (he : ∀ j, 0 ≤ ext j ∧ ext j ≤ 255) (j : Nat) : 0 ≤ curOf vals ext tr j ∧ curOf vals ext tr j ≤ 510 := by
  unfold curOf
  have := hv j
  have := he j
  split <;> omega
theorem mn_range (hv : ∀ j, 0 ≤ vals j ∧ vals j ≤ 255) (he : ∀ j, 0 ≤ ext j ∧ ext j ≤ 255) (k : Nat) : Small (mn (curOf vals ext tr) k) := by
  obtain ⟨z, _, _, hz⟩ := (mn_min (curOf vals ext tr) k).2
  rw [hz]
  have := cur_range (tr := tr) hv he z
  exact small_of (by omega) (by omega)
end
end Go.Proofs.Ybulkbuhe
