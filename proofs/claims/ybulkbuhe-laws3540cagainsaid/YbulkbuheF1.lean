/-
  leastFirst over the tree that was built; the empty tree.
-/
import Derived.Test.YbulkbuheE5
import Derived.Test.YbulkbuheC1
import Derived.Test.YbulkbuheD2
namespace Go.Proofs.Ybulkbuhe
open Go.RowKit Fl
attribute [local go_sem] run_store_float setCell_drewN alloc_drewN
attribute [-go_sem] World.setCell_alloc_at World.setCell_alloc_past

/-- What leastFirst leaves, over the tree that was built. -/
def RunPost {base : Nat} (C : Client base) (tb len : Nat) (key : Int) (vals : Nat → Int) (w : World) (e : Ending) (w' : World) : Prop :=
  ∃ sm sn tr F cb nb cap, e = .returned (.tuple #[]) ∧ (∃ M, Tr w' base tb cb nb (shapeOf len).N cap M ∧ Mem (shapeOf len) M sm sn) ∧ C.E ⟨firsts tr, tr⟩ F w' ∧ Good len vals C.ext tr ∧
    (∀ j : Nat, fstN tr j = if key < j ∧ j < len ∧ vals j < C.bar then 1 else 0) ∧
    (∀ j : Nat, sndN tr j = if key < j ∧ j < len ∧ vals j < C.bar ∧ 0 < C.ext j ∧ vals j + C.ext j < C.bar then 1 else 0) ∧
    (∀ n i, 1 ≤ n → n < (shapeOf len).N → i < (shapeOf len).cnt n → (shapeOf len).leaf n = true → sm n i = curOf vals C.ext tr ((shapeOf len).s n i)) ∧
    IsMin (curOf vals C.ext tr) 0 len (sn (shapeOf len).root) ∧ Chg (fun k => base ≤ k) w w'

theorem run_built {base : Nat} (C : Client base) (w0 w1 w2 : World) (e0 : Ending) (tb len : Nat) (key : Int) (vals : Nat → Int) (F : Nat → Prop) (h0 : 1 ≤ len) (hl : len ≤ 1024) (hv : ∀ j, 0 ≤ vals j ∧ vals j ≤ 255)
    (t5 : w0.cell? ⟨tb, 5, none⟩ = some (.slice none 0 0)) (t6 : w0.cell? ⟨tb, 6, none⟩ = some (.slice none 0 0)) (hB : BuildPost base tb (shapeOf len) vals w0 e0 w1) (hb : base ≤ w1.heap.size)
    (hc : Chg (fun _ => False) w1 w2) (hE : C.E ⟨0, []⟩ F w2) (hF : ∀ k, F k → w1.heap.size ≤ k) (hext : ∀ j, 0 ≤ C.ext j ∧ C.ext j ≤ 255) (hgood : ∀ l, Good len vals C.ext l → C.good l) :
    Calls Yba.prog 6 #[.pointer (some ⟨tb, 0, none⟩), .int .i32 (shapeOf len).root, .int .i32 key, .func (.func C.fv) #[] #[], .func (.func C.fb) #[] C.cb, .func (.func C.fn) #[] C.cn, .func (.func C.fs) #[] C.cs, .iface 45 (.agg #[])] w2 (RunPost C tb len key vals w2) := by
  have o := shape_ok h0 hl
  obtain ⟨cb, nb, cap, M, _, hT, hM, hch, hrest, _, _⟩ := hB
  have l1 := hT.ltt
  have l2 := hT.ltc
  have l3 := hT.ltn
  have y : Sys C (shapeOf len) w2 tb cb nb cap (smF (shapeOf len) vals) (snF (shapeOf len) vals) (.slice none 0 0) [] ⟨0, []⟩ F :=
    ⟨⟨M, hT.chg hc id id id, hM⟩, World.ownsRow_nil _ _ _ _, hE, fun j _ h => absurd h (Nat.not_lt_zero _), fun x hx => (by cases hx), fun k e => (by cases e), fun e => by have := hF _ e; omega, fun e => by have := hF _ e; omega, fun e => by have := hF _ e; omega, Nat.le_trans hb hc.size⟩
  refine (leastFirst_walk C (shapeOf len) o w2 tb cb nb cap _ _ key vals F y ?_ ?_ hv hext (fun n i a b c d => smF_leaf o vals a b c d) (fun n i a b c _ => smF_min o vals a b c) (snF_root o vals) hgood).mono ?_
  · exact (hc.cell (p := ⟨tb, 5, none⟩) l1 id).trans ((hrest 5 (by decide) (by decide)).trans t5)
  · exact (hc.cell (p := ⟨tb, 6, none⟩) l1 id).trans ((hrest 6 (by decide) (by decide)).trans t6)
  · rintro e w' ⟨sm', sn', tr, F', he, hm, hE', hg, hf, hs, hlf, hr, hcc, _⟩
    refine ⟨sm', sn', tr, F', cb, nb, cap, he, hm, hE', hg, hf, hs, hlf, hr, hcc.mono (fun k _ h => ?_)⟩
    rcases h with h | h | h
    · rw [h]; exact hT.bnb
    · rw [h]; exact hT.btb
    · exact Nat.le_trans hb (hF k h)

def Build0 (tb : Nat) (w : World) (e : Ending) (w' : World) : Prop := e = .returned (.int .i32 0) ∧ Chg (fun k => k = tb) w w'
set_option maxHeartbeats 1000000 in
set_option maxRecDepth 100000 in
theorem build0_walk (w : World) (base tb vc : Nat) (a : Option Addr)
    (t0 : w.cell? ⟨tb, 0, none⟩ = some (.slice none 0 0)) (t2 : w.cell? ⟨tb, 2, none⟩ = some (.int .i64 0)) (st : ∀ i, w.frozen? ⟨tb, i, none⟩ = false) (hbt : base ≤ tb) (hb : base ≤ w.heap.size) :
    Calls Yba.prog 5 #[.pointer (some ⟨tb, 0, none⟩), .slice a 0 vc] w (Build0 tb w) := by
  have HA := add_first w base tb t0 t2 st hbt hb
  clear t0 t2 st
  go_enter Yba.func5, Yba.ntmps5
  go_wp2_with (first | (go_at_call 17; refine HA.mono ?_; rintro e w1 ⟨cb, nb, cap, rfl, hT1, hc1, hcb, hnb, hrest⟩))
  go_ret
  exact ⟨rfl, hc1⟩
set_option maxHeartbeats 1000000 in
set_option maxRecDepth 100000 in
theorem least0_walk (w : World) (tb : Nat) (key : Int) (f1 f2 f3 f4 it : Value) : Calls Yba.prog 6 #[.pointer (some ⟨tb, 0, none⟩), .int .i32 0, .int .i32 key, f1, f2, f3, f4, it] w (RetPost (.tuple #[]) w) := by
  go_enter Yba.func6, Yba.ntmps6
  go_wp2_with fail
  refine bodyPost_ret (results_none rfl _ _ _) rfl ?_
  exact ⟨rfl, rfl⟩
end Go.Proofs.Ybulkbuhe
