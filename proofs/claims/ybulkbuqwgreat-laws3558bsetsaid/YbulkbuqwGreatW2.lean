/-
  The node in memory; the walk of banAddr.
-/
import Derived.Test.YbulkbuqwGreatW1
import Derived.Defers
import Derived.Lib.SmallJoins
namespace Go.Proofs.YbulkbuqwGreat
open Go.RowKit Go.MuLone Go.ChangeMaps

theorem sb_size (w : World) (r : Nat) (o : Obj) : (setBlock w r o).heap.size = w.heap.size := by
  show (w.heap.setIfInBounds r o).size = _
  simp
theorem sb_other (w : World) (r : Nat) (o : Obj) (j : Nat) (h : r ≠ j) : (setBlock w r o).heap[j]? = w.heap[j]? := by
  show (w.heap.setIfInBounds r o)[j]? = _
  rw [Array.getElem?_setIfInBounds]
  simp [h]
theorem below_sb {B : Nat} {a w : World} {r : Nat} (h : Below B a w) (hr : B ≤ r) (o : Obj) : Below B a (setBlock w r o) :=
  h.trans ⟨rfl, rfl, rfl, by rw [sb_size]; exact Nat.le_refl _, fun k hk => sb_other w r o k (by omega)⟩

/-- The node's block N, the map's block r, what stands in the map; all older memory as in w0. -/
structure St (w0 w : World) (N r : Nat) (ps : List Int) (m : Int) : Prop where
  below : Below w0.heap.size w0 w
  hr : w0.heap.size ≤ r
  hN : r < N
  lt : N < w.heap.size
  mu : w.cell? ⟨N, 44, none⟩ = some (.int .i32 m)
  mp : w.cell? ⟨N, 55, none⟩ = some (.map (some r))
  ks : w.cell? ⟨N, 56, none⟩ = some (.map none)
  soft : w.frozen? ⟨N, 44, none⟩ = false
  map : MapIs w r ps

theorem St.grow {w0 w w' : World} {N r : Nat} {ps : List Int} {m : Int} (h : St w0 w N r ps m) (hb : Below w.heap.size w w') : St w0 w' N r ps m := by
  obtain ⟨es, c, hm, hp⟩ := h.map
  have hlt := h.lt
  have hN := h.hN
  exact ⟨h.below.trans (hb.mono h.below.size), h.hr, h.hN, Nat.lt_of_lt_of_le h.lt hb.size, by rw [hb.cell h.lt]; exact h.mu, by rw [hb.cell h.lt]; exact h.mp, by rw [hb.cell h.lt]; exact h.ks, by rw [hb.frozen h.lt]; exact h.soft,
    es, c, by rw [hb.block r (by omega)]; exact hm, hp⟩
theorem St.drew {w0 w : World} {N r : Nat} {ps : List Int} {m : Int} (h : St w0 w N r ps m) : St w0 w.drew N r ps m := h.grow ((Below.refl _ _).drew)
/-- The map's block turned. -/
theorem St.turn {w0 w : World} {N r : Nat} {ps ps' : List Int} {m : Int} {o : Obj} (h : St w0 w N r ps m) (hm : MapIs (setBlock w r o) r ps') : St w0 (setBlock w r o) N r ps' m := by
  have hN := h.hN
  have hc : ∀ i, (setBlock w r o).cell? ⟨N, i, none⟩ = w.cell? ⟨N, i, none⟩ := fun i => World.cell?_of_block (sb_other w r o N (by omega))
  have hf : ∀ i, (setBlock w r o).frozen? ⟨N, i, none⟩ = w.frozen? ⟨N, i, none⟩ := fun i => World.frozen?_of_block (sb_other w r o N (by omega))
  exact ⟨below_sb h.below h.hr o, h.hr, h.hN, by rw [sb_size]; exact h.lt, by rw [hc]; exact h.mu, by rw [hc]; exact h.mp, by rw [hc]; exact h.ks, by rw [hf]; exact h.soft, hm⟩

/-- The lock's word set. -/
theorem St.word {w0 w : World} {N r : Nat} {ps : List Int} {m : Int} (h : St w0 w N r ps m) (m' : Int) : St w0 (w.setCell ⟨N, 44, none⟩ (.int .i32 m')) N r ps m' := by
  have hN := h.hN
  have hr := h.hr
  obtain ⟨es, c, hm, hp⟩ := h.map
  refine ⟨h.below.setCell (by show w0.heap.size ≤ N; omega) _, h.hr, h.hN, by rw [World.size_setCell]; exact h.lt, World.cell?_setCell_same _ _ _ h.mu, ?_, ?_, by rw [World.frozen?_setCell]; exact h.soft, es, c, ?_, hp⟩
  · rw [World.cell?_setCell_other _ _ _ _ (by simp)]; exact h.mp
  · rw [World.cell?_setCell_other _ _ _ _ (by simp)]; exact h.ks
  · rw [Below.heap_setCell _ _ _ _ (by show r ≠ N; omega)]; exact hm

set_option maxHeartbeats 800000 in
set_option maxRecDepth 100000 in
theorem ban_walk (w0 : World) (N r : Nat) (p : Int) (ps : List Int) (w : World) (hs : St w0 w N r ps 0) :
    Calls Ybaz.prog 5 #[.pointer (some ⟨N, 0, none⟩), K p] w fun e w' => e = .returned (.tuple #[]) ∧ St w0 w' N r (ins ps p) 0 := by
  unfold K
  go_enter_defers Ybaz.func5, Ybaz.ntmps5
  go_wp2_with fail
  have h1 := hs.grow ((Below.refl w.heap.size w).alloc (Nat.le_refl _) (.cells #[.int .u64 0, .int .u64 0, .pointer none, .int .u16 p] 37))
  have hcell : (w.alloc (.cells #[.int .u64 0, .int .u64 0, .pointer none, .int .u16 p] 37)).heap[w.heap.size]? = some (.cells #[.int .u64 0, .int .u64 0, .pointer none, .int .u16 p] 37 (0, 0)) := by
    show (w.heap.push _)[w.heap.size]? = _
    simp
  refine (lock_free muLib ⟨N, 44, none⟩ _ h1.mu h1.soft).mono ?_
  rintro e w1 ⟨rfl, hw1⟩
  have hlt := hs.lt
  have h2 : St w0 w1 N r ps 1 := by rw [hw1]; exact h1.word 1
  have hB : w1.heap[w.heap.size]? = some (.cells #[.int .u64 0, .int .u64 0, .pointer none, .int .u16 p] 37 (0, 0)) := by
    rw [hw1, Below.heap_setCell _ _ _ _ (by show w.heap.size ≠ N; omega)]; exact hcell
  have k0 : w1.cell? ⟨w.heap.size, 0, none⟩ = some (.int .u64 0) := Joins.cell_of_block hB 0
  have k1 : w1.cell? ⟨w.heap.size, 1, none⟩ = some (.int .u64 0) := Joins.cell_of_block hB 1
  have k2 : w1.cell? ⟨w.heap.size, 2, none⟩ = some (.pointer none) := Joins.cell_of_block hB 2
  have k3 : w1.cell? ⟨w.heap.size, 3, none⟩ = some (.int .u16 p) := Joins.cell_of_block hB 3
  have mp := h2.mp
  obtain ⟨o, hrun, hm⟩ := map_update w1.drew r ps p h2.drew.map
  unfold K at hrun
  have h3 : St w0 (setBlock w1.drew r o) N r (ins ps p) 1 := h2.drew.turn hm
  clear hw1 hcell h1 hB hm h2
  go_wp2_with fail
  go_region
  refine leaves_cons (f := 8) (args := #[.pointer (some ⟨N, 44, none⟩)]) (by simp) (by simp [go_sem]) ?_
  refine (unlock_deferred muLib ⟨N, 44, none⟩ .returning _ h3.mu h3.soft).mono ?_
  rintro e u' w'' ⟨rfl, rfl, rfl⟩
  exact ⟨_, results_none rfl _ _ _, rfl, h3.word 0⟩
end Go.Proofs.YbulkbuqwGreat
