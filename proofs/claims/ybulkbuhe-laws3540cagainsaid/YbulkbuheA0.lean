/-
  Memory: what a call may have turned; the table of nodes as a function of node and field.
-/
import Derived.Test.YbulkbuheRows
import Derived.WalkKit
import Derived.WalkSpells
import Derived.WalkLawsBesides
import Derived.Below
import Derived.Laws.OwnMore
import Derived.Deep.AppendLies
namespace Go.Proofs.Ybulkbuhe
open Go.RowKit

/-- Of the blocks that w has, those of S alone may read otherwise in w'. -/
structure Chg (S : Nat → Prop) (w w' : World) : Prop where
  os : w'.os = w.os
  tape : w'.tape = w.tape
  output : w'.output = w.output
  size : w.heap.size ≤ w'.heap.size
  block : ∀ k, k < w.heap.size → ¬ S k → w'.heap[k]? = w.heap[k]?

theorem Chg.refl (S : Nat → Prop) (w : World) : Chg S w w := ⟨rfl, rfl, rfl, Nat.le_refl _, fun _ _ _ => rfl⟩
theorem Chg.trans {S S' : Nat → Prop} {a b c : World} (h : Chg S a b) (k : Chg S' b c) (hs : ∀ i, i < a.heap.size → S' i → S i) : Chg S a c :=
  ⟨k.os.trans h.os, k.tape.trans h.tape, k.output.trans h.output, Nat.le_trans h.size k.size, fun i hi hn => (k.block i (Nat.lt_of_lt_of_le hi h.size) (fun e => hn (hs i hi e))).trans (h.block i hi hn)⟩
theorem Chg.mono {S S' : Nat → Prop} {a b : World} (h : Chg S a b) (hs : ∀ i, i < a.heap.size → S i → S' i) : Chg S' a b :=
  ⟨h.os, h.tape, h.output, h.size, fun i hi hn => h.block i hi (fun e => hn (hs i hi e))⟩
theorem Chg.alloc (S : Nat → Prop) (w : World) (o : Obj) : Chg S w (w.alloc o) := ⟨rfl, rfl, rfl, by simp, fun k hk _ => Below.heap_alloc _ _ _ hk⟩
theorem Chg.setCell {S : Nat → Prop} (w : World) (a : Addr) (v : Value) (h : S a.block) : Chg S w (w.setCell a v) :=
  ⟨rfl, rfl, rfl, by simp [World.setCell], fun k _ hn => Below.heap_setCell _ _ _ _ (fun e => hn (e ▸ h))⟩
theorem Chg.drewN (S : Nat → Prop) (w : World) (n : Nat) : Chg S w (w.drewN n) := ⟨rfl, rfl, rfl, Nat.le_refl _, fun _ _ _ => rfl⟩
theorem Chg.drew (S : Nat → Prop) (w : World) : Chg S w w.drew := ⟨rfl, rfl, rfl, Nat.le_refl _, fun _ _ _ => rfl⟩
theorem Chg.grown {S : Nat → Prop} {w w' : World} {row : Option Nat} (h : w.grownBy w' row) (hr : ∀ k, row = some k → S k) : Chg S w w' :=
  ⟨h.os, h.tape, h.output, h.size, fun k hk hn => h.block k hk (fun e => hn (hr k e.symm))⟩
theorem Chg.cell {S : Nat → Prop} {w w' : World} (h : Chg S w w') {p : Addr} (hp : p.block < w.heap.size) (hn : ¬ S p.block) : w'.cell? p = w.cell? p := World.cell?_of_block (h.block p.block hp hn)
theorem Chg.frozen {S : Nat → Prop} {w w' : World} (h : Chg S w w') {p : Addr} (hp : p.block < w.heap.size) (hn : ¬ S p.block) : w'.frozen? p = w.frozen? p := World.frozen?_of_block (h.block p.block hp hn)
theorem Chg.below {S : Nat → Prop} {B : Nat} {a w w' : World} (h : Below B a w) (k : Chg S w w') (hB : B ≤ w.heap.size) (hs : ∀ i, S i → B ≤ i) : Below B a w' :=
  h.trans ⟨k.os, k.tape, k.output, k.size, fun i hi => k.block i (by omega) (fun e => by have := hs i e; omega)⟩
theorem Chg.row {S : Nat → Prop} {w w' : World} (h : Chg S w w') {base : Nat} {e : TypeId} {size : Nat} {v : Value} {n : Nat} {xs : List Value} (hr : w.ownsRow base e size v n xs) (hn : ∀ k, v.ownBlock = some k → ¬ S k) : w'.ownsRow base e size v n xs := by
  refine ⟨hr.1, ?_⟩
  rcases hr.2 with hz | ⟨g, cap, cur, rfl, hb, hgg, rest⟩
  · exact .inl hz
  · refine .inr ⟨g, cap, cur, rfl, hb, ?_, rest⟩
    rw [h.block g (Array.getElem?_eq_some_iff.1 hgg).1 (hn g rfl)]
    exact hgg

/-- The table of nodes: node n's cell o is M n o; 36 cells a node. -/
def flat (M : Nat → Nat → Value) (N : Nat) : List Value := (List.range (N * 36)).map fun i => M (i / 36) (i % 36)
def upd (M : Nat → Nat → Value) (n o : Nat) (v : Value) : Nat → Nat → Value := fun n' o' => if n' = n ∧ o' = o then v else M n' o'
theorem flat_len (M : Nat → Nat → Value) (N : Nat) : (flat M N).length = N * 36 := by simp [flat]
theorem flat_at (M : Nat → Nat → Value) (N n o : Nat) (hn : n < N) (ho : o < 36) : (flat M N)[n * 36 + o]? = some (M n o) := by
  unfold flat
  have h1 : n * 36 + o < N * 36 := by omega
  rw [List.getElem?_map, List.getElem?_range h1]
  simp only [Option.map_some]
  rw [show (n * 36 + o) / 36 = n by omega, show (n * 36 + o) % 36 = o by omega]
theorem flat_set (M : Nat → Nat → Value) (N n o : Nat) (v : Value) (ho : o < 36) : (flat M N).set (n * 36 + o) v = flat (upd M n o v) N := by
  apply List.ext_getElem?
  intro i
  rw [List.getElem?_set]
  unfold flat
  simp only [List.getElem?_map, List.length_map, List.length_range]
  by_cases hi : n * 36 + o = i
  · subst hi
    rw [if_pos rfl]
    by_cases hlt : n * 36 + o < N * 36
    · rw [if_pos hlt, List.getElem?_range hlt]
      simp only [Option.map_some, upd]
      rw [if_pos ⟨by omega, by omega⟩]
    · rw [if_neg hlt, List.getElem?_eq_none (by simpa using hlt)]; rfl
  · rw [if_neg hi]
    by_cases hlt : i < N * 36
    · rw [List.getElem?_range hlt]
      simp only [Option.map_some, upd]
      rw [if_neg (by omega)]
    · rw [List.getElem?_eq_none (by simpa using hlt)]; rfl

/-- The set's record at tb, its one chunk's place at cb, the chunk at nb: N nodes. -/
structure Tr (w : World) (base tb cb nb N cap : Nat) (M : Nat → Nat → Value) : Prop where
  t0 : ∃ c, w.cell? ⟨tb, 0, none⟩ = some (.slice (some ⟨cb, 0, none⟩) 1 c)
  t2 : w.cell? ⟨tb, 2, none⟩ = some (.int .i64 N)
  c0 : w.cell? ⟨cb, 0, none⟩ = some (.slice (some ⟨nb, 0, none⟩) N cap)
  row : w.ownsRow base 55 36 (.slice (some ⟨nb, 0, none⟩) N cap) N (flat M N)
  tbc : tb ≠ cb
  tbn : tb ≠ nb
  cbn : cb ≠ nb
  btb : base ≤ tb
  bcb : base ≤ cb
  softt : ∀ i, w.frozen? ⟨tb, i, none⟩ = false
  softc : ∀ i, w.frozen? ⟨cb, i, none⟩ = false
  small : N ≤ 1000

variable {w : World} {base tb cb nb N cap : Nat} {M : Nat → Nat → Value}
theorem Tr.at (h : Tr w base tb cb nb N cap M) {n o : Nat} (hn : n < N) (ho : o < 36) : w.cell? ⟨nb, n * 36 + o, none⟩ = some (M n o) := by
  rw [h.row.cellAt (n * 36 + o) (by omega), flat_at M N n o hn ho]
theorem Tr.softn (h : Tr w base tb cb nb N cap M) (i : Nat) : w.frozen? ⟨nb, i, none⟩ = false := h.row.frozenAt i
theorem Tr.ltt (h : Tr w base tb cb nb N cap M) : tb < w.heap.size := World.block_lt_of_cell? w ⟨tb, 2, none⟩ h.t2
theorem Tr.ltc (h : Tr w base tb cb nb N cap M) : cb < w.heap.size := World.block_lt_of_cell? w ⟨cb, 0, none⟩ h.c0
theorem Tr.ltn (h : Tr w base tb cb nb N cap M) : nb < w.heap.size := (h.row.lt nb rfl).2
theorem Tr.bnb (h : Tr w base tb cb nb N cap M) : base ≤ nb := (h.row.lt nb rfl).1
theorem Tr.chg {S : Nat → Prop} {w' : World} (h : Tr w base tb cb nb N cap M) (k : Chg S w w') (h1 : ¬ S tb) (h2 : ¬ S cb) (h3 : ¬ S nb) : Tr w' base tb cb nb N cap M := by
  obtain ⟨c, hc⟩ := h.t0
  refine ⟨⟨c, (k.cell h.ltt h1).trans hc⟩, (k.cell h.ltt h1).trans h.t2, (k.cell h.ltc h2).trans h.c0, k.row h.row (fun i e => by cases e; exact h3), h.tbc, h.tbn, h.cbn, h.btb, h.bcb, fun i => ?_, fun i => ?_, h.small⟩
  · rw [k.frozen (p := ⟨tb, i, none⟩) h.ltt h1]; exact h.softt i
  · rw [k.frozen (p := ⟨cb, i, none⟩) h.ltc h2]; exact h.softc i
theorem Tr.drewN (h : Tr w base tb cb nb N cap M) (n : Nat) : Tr (w.drewN n) base tb cb nb N cap M := ⟨h.t0, h.t2, h.c0, h.row, h.tbc, h.tbn, h.cbn, h.btb, h.bcb, h.softt, h.softc, h.small⟩
theorem Tr.drew (h : Tr w base tb cb nb N cap M) : Tr w.drew base tb cb nb N cap M := ⟨h.t0, h.t2, h.c0, h.row, h.tbc, h.tbn, h.cbn, h.btb, h.bcb, h.softt, h.softc, h.small⟩
theorem Tr.alloc (h : Tr w base tb cb nb N cap M) (o : Obj) : Tr (w.alloc o) base tb cb nb N cap M := h.chg (Chg.alloc (fun _ => False) w o) id id id
theorem Tr.set (h : Tr w base tb cb nb N cap M) {n o : Nat} (ho : o < 36) (v : Value) : Tr (w.setCell ⟨nb, n * 36 + o, none⟩ v) base tb cb nb N cap (upd M n o v) := by
  have k : Chg (fun i => i = nb) w (w.setCell ⟨nb, n * 36 + o, none⟩ v) := Chg.setCell w _ v rfl
  obtain ⟨c, hc⟩ := h.t0
  have hs := (h.row.stored (n * 36 + o) v).1
  rw [flat_set M N n o v ho] at hs
  refine ⟨⟨c, (k.cell h.ltt h.tbn).trans hc⟩, (k.cell h.ltt h.tbn).trans h.t2, (k.cell h.ltc h.cbn).trans h.c0, hs, h.tbc, h.tbn, h.cbn, h.btb, h.bcb, fun i => ?_, fun i => ?_, h.small⟩
  · rw [k.frozen (p := ⟨tb, i, none⟩) h.ltt h.tbn]; exact h.softt i
  · rw [k.frozen (p := ⟨cb, i, none⟩) h.ltc h.cbn]; exact h.softc i
end Go.Proofs.Ybulkbuhe
