/-
  The walks of place, entryOf and setChild.
-/
import Derived.Test.YbulkbuheA2
import Derived.Deep.RegionHeld3
namespace Go.Proofs.Ybulkbuhe
open Go.RowKit Fl
attribute [local go_sem] run_store_float setCell_drewN alloc_drewN

theorem cell_new (w : World) (cs : Array Value) (t : TypeId) (b j : Nat) (hb : b = w.heap.size) : (w.alloc (.cells cs t)).drew.cell? ⟨b, j, none⟩ = cs[j]? := by
  subst hb; rw [World.cell?_drew]; exact World.cell?_alloc_new ..

/-- Entry i of node n set. -/
def placeM (M : Nat → Nat → Value) (n i : Nat) (k : Int) (x : Nat) (r z : Int) : Nat → Nat → Value :=
  upd (upd (upd (upd (upd M n (3 + i) (.int .i32 k)) n (11 + i) (.float .f64 x)) n (19 + i) (.int .i32 r)) n (28 + i) (.int .i32 z)) n 2 (.int .u8 0)

set_option maxHeartbeats 2000000 in
set_option maxRecDepth 100000 in
theorem place_walk (w : World) (base tb cb nb N cap n i : Nat) (M : Nat → Nat → Value) (k : Int) (x : Nat) (r z : Int) (h : Tr w base tb cb nb N cap M) (hn : n < N) (hi : i < 8) (h2 : M n 2 = .int .u8 0) :
    Calls Yba.prog 19 #[.pointer (some ⟨nb, n * 36, none⟩), .int .i64 i, .agg #[.int .i32 k, .float .f64 x, .int .i32 r, .int .i32 z]] w (SetPost base tb cb nb N cap (placeM M n i k x r z) w) := by
  have hi0 : (0 : Int) ≤ i := by omega
  have hi8 : (i : Int) < 8 := by omega
  have g2 := h.at hn (show 2 < 36 by decide)
  rw [h2] at g2
  have g3 := h.at hn (show 3 + i < 36 by omega)
  have g11 := h.at hn (show 11 + i < 36 by omega)
  have g19 := h.at hn (show 19 + i < 36 by omega)
  have g28 := h.at hn (show 28 + i < 36 by omega)
  rw [← Nat.add_assoc] at g3 g11 g19 g28
  have sf := h.softn
  have hlt := h.ltn
  go_enter Yba.func19, Yba.ntmps19
  go_wp2_with fail
  go_region_held3 (fun w' => w'.cell? ⟨w.heap.size, 0, none⟩ = some (.int .i32 k) ∧ w'.cell? ⟨w.heap.size, 1, none⟩ = some (.float .f64 x) ∧ w'.cell? ⟨w.heap.size, 2, none⟩ = some (.int .i32 r) ∧ w'.cell? ⟨w.heap.size, 3, none⟩ = some (.int .i32 z)) (refine ⟨?_, ?_, ?_, ?_⟩ <;> exact cell_new _ _ _ _ _ (by simp)) (fail)
  clear g2 g3 g11 g19 g28 sf hlt
  rename_i hHeld
  clear hHeld
  have hT : Tr _ base tb cb nb N cap _ := ((((h.set (n := n) (o := 3 + i) (by omega) (.int .i32 k)).set (n := n) (o := 11 + i) (by omega) (.float .f64 x)).set (n := n) (o := 19 + i) (by omega) (.int .i32 r)).set (n := n) (o := 28 + i) (by omega) (.int .i32 z)).alloc (.cells #[.int .i32 k, .float .f64 x, .int .i32 r, .int .i32 z] 63) |>.drew
  have hC : Chg (fun j => j = nb) w _ := (((((Chg.setCell (S := fun j => j = nb) w ⟨nb, n * 36 + (3 + i), none⟩ (.int .i32 k) rfl).trans (Chg.setCell (S := fun j => j = nb) _ ⟨nb, n * 36 + (11 + i), none⟩ (.float .f64 x) rfl) (fun _ _ h => h)).trans (Chg.setCell (S := fun j => j = nb) _ ⟨nb, n * 36 + (19 + i), none⟩ (.int .i32 r) rfl) (fun _ _ h => h)).trans (Chg.setCell (S := fun j => j = nb) _ ⟨nb, n * 36 + (28 + i), none⟩ (.int .i32 z) rfl) (fun _ _ h => h)).trans (Chg.alloc _ _ (.cells #[.int .i32 k, .float .f64 x, .int .i32 r, .int .i32 z] 63)) (fun _ _ h => h)).trans (Chg.drew _ _) (fun _ _ h => h)
  simp only [← Nat.add_assoc] at hT hC
  generalize hW : ((((((w.setCell ⟨nb, n * 36 + 3 + i, none⟩ (.int .i32 k)).setCell ⟨nb, n * 36 + 11 + i, none⟩ (.float .f64 x)).setCell ⟨nb, n * 36 + 19 + i, none⟩ (.int .i32 r)).setCell ⟨nb, n * 36 + 28 + i, none⟩ (.int .i32 z)).alloc (.cells #[.int .i32 k, .float .f64 x, .int .i32 r, .int .i32 z] 63)).drew) = W at hT hC ⊢
  clear hW
  have g2 := hT.at hn (show 2 < 36 by decide)
  have e2 : (upd (upd (upd (upd M n (3 + i) (.int .i32 k)) n (11 + i) (.float .f64 x)) n (19 + i) (.int .i32 r)) n (28 + i) (.int .i32 z)) n 2 = .int .u8 0 := by
    simp only [upd]
    rw [if_neg (by omega), if_neg (by omega), if_neg (by omega), if_neg (by omega), h2]
  rw [e2] at g2
  have sf := hT.softn (n * 36 + 2)
  go_wp2_with (go_at_call 27; refine (withBit_walk _ _ hi0 hi8).mono ?_; rintro e w' ⟨rfl, rfl⟩)
  go_end0
  exact ⟨rfl, hT.set (n := n) (o := 2) (by decide) _, hC.trans (Chg.setCell (S := fun j => j = nb) _ ⟨nb, n * 36 + 2, none⟩ _ rfl) (fun _ _ h => h)⟩
end Go.Proofs.Ybulkbuhe
