/-
  The walks of entryOf and setChild.
-/
import Derived.Test.YbulkbuheA3
namespace Go.Proofs.Ybulkbuhe
open Go.RowKit Fl
attribute [local go_sem] run_store_float setCell_drewN alloc_drewN

/-- A node that can be summed up: its count, its sort, its sizes. -/
structure Fair (M : Nat → Nat → Value) (n c : Nat) : Prop where
  count : M n 0 = .int .i32 c
  low : 1 ≤ c
  high : c ≤ 8
  leaf : ∃ b, M n 1 = .bool b
  sizes : ∀ i, i < 8 → ∃ z, M n (28 + i) = .int .i32 z
  owed : M n 2 = .int .u8 0

theorem items_any (w : World) (base tb cb nb N cap n c : Nat) (M : Nat → Nat → Value) (h : Tr w base tb cb nb N cap M) (hn : n < N) (hf : Fair M n c) :
    Calls Yba.prog 28 #[.pointer (some ⟨nb, n * 36, none⟩)] w (ItemsPost w) := by
  have g0 := h.at hn (show 0 < 36 by decide)
  rw [hf.count, Nat.add_zero] at g0
  have g1 := h.at hn (show 1 < 36 by decide)
  obtain ⟨b, hb⟩ := hf.leaf
  rw [hb] at g1
  cases b with
  | true => exact items_leaf w nb n c g0 g1
  | false =>
    have hz : ∀ i, i < 8 → w.cell? ⟨nb, n * 36 + 28 + i, none⟩ = some (.int .i32 (intOf (M n (28 + i)))) := fun i hi => by
      obtain ⟨z, hz⟩ := hf.sizes i hi
      rw [Nat.add_assoc, h.at hn (by omega), hz]; rfl
    exact items_branch w nb n c _ g0 hf.high g1 hz

def EntryPost (base tb cb nb N cap n : Nat) (M : Nat → Nat → Value) (k : Int) (x : Nat) (w : World) (e : Ending) (w' : World) : Prop :=
  ∃ z, e = .returned (.agg #[.int .i32 k, .float .f64 x, .int .i32 n, .int .i32 z]) ∧ Tr w' base tb cb nb N cap M ∧ Chg (fun _ => False) w w'

set_option maxHeartbeats 2000000 in
set_option maxRecDepth 100000 in
theorem entryOf_walk (w : World) (base tb cb nb N cap n c : Nat) (M : Nat → Nat → Value) (k : Int) (x : Nat) (h : Tr w base tb cb nb N cap M) (hn : n < N) (hf : Fair M n c) (hk : M n (3 + (c - 1)) = .int .i32 k) (hx : M n 27 = .float .f64 x) :
    Calls Yba.prog 20 #[.pointer (some ⟨tb, 0, none⟩), .int .i32 n] w (EntryPost base tb cb nb N cap n M k x w) := by
  have hlow := hf.low
  have hhigh := hf.high
  have hA := h.alloc (.cells #[.int .i32 0, .float .f64 0, .int .i32 0, .int .i32 0] 63)
  have hlt := h.ltn
  obtain ⟨d, hd⟩ : ∃ d, d = c - 1 := ⟨_, rfl⟩
  have hd0 : (0 : Int) ≤ (d : Int) := by omega
  have hd8 : (d : Int) < 8 := by omega
  have hw : IntKind.i32.wrap ((c : Int) - 1) = (d : Int) := by rw [IntKind.wrap_i32]; omega
  rw [← hd] at hk
  have s0 : ∀ w', Tr w' base tb cb nb N cap M → w'.cell? ⟨nb, n * 36, none⟩ = some (.int .i32 c) := fun w' hT => by
    have := hT.at hn (show 0 < 36 by decide)
    rwa [hf.count, Nat.add_zero] at this
  have s3 : ∀ w', Tr w' base tb cb nb N cap M → w'.cell? ⟨nb, n * 36 + 3 + d, none⟩ = some (.int .i32 k) := fun w' hT => by
    have := hT.at hn (show 3 + d < 36 by omega)
    rwa [hk, ← Nat.add_assoc] at this
  have s27 : ∀ w', Tr w' base tb cb nb N cap M → w'.cell? ⟨nb, n * 36 + 27, none⟩ = some (.float .f64 x) := fun w' hT => by
    have := hT.at hn (show 27 < 36 by decide)
    rwa [hx] at this
  clear hd
  have hAny : ∀ o m, Tr ((w.alloc o).drewN m) base tb cb nb N cap M := fun o m => (h.alloc o).drewN m
  go_enter Yba.func20, Yba.ntmps20
  go_wp2_with fail
  refine (node_walk _ base tb cb nb N cap n M hA hn).mono ?_
  rintro e w' ⟨rfl, rfl⟩
  go_wp2_with fail
  go_region_held3 (fun w' => Tr w' base tb cb nb N cap M ∧ w'.cell? ⟨nb, n * 36, none⟩ = some (.int .i32 c) ∧ w'.cell? ⟨nb, n * 36 + 3 + d, none⟩ = some (.int .i32 k) ∧ w'.cell? ⟨nb, n * 36 + 27, none⟩ = some (.float .f64 x))
    (first
      | (exact ⟨hA.drew, s0 _ hA.drew, s3 _ hA.drew, s27 _ hA.drew⟩)
      | (exact ⟨hAny _ _, s0 _ (hAny _ _), s3 _ (hAny _ _), s27 _ (hAny _ _)⟩)
      | (trace_state; fail))
    (first | (go_at_call 28; refine (items_any _ base tb cb nb N cap n c M hA.drew hn hf).mono ?_; rintro e w' ⟨z, rfl, m, rfl⟩))
  go_wp2_with fail
  refine bodyPost_ret (v := .agg #[.int .i32 k, .float .f64 x, .int .i32 n, .int .i32 z]) (by simp [results, go_sem]) rfl ?_
  exact ⟨z, rfl, hAny _ _, (Chg.alloc _ _ _).trans (Chg.drewN _ _ _) (fun _ _ h => h)⟩

def ChildPost (base tb cb nb N cap n i m : Nat) (M : Nat → Nat → Value) (k : Int) (x : Nat) (w : World) (e : Ending) (w' : World) : Prop :=
  ∃ z, e = .returned (.tuple #[]) ∧ Tr w' base tb cb nb N cap (placeM M n i k x m z) ∧ Chg (fun j => j = nb) w w'

set_option maxHeartbeats 1000000 in
theorem setChild_walk (w : World) (base tb cb nb N cap n i m c : Nat) (M : Nat → Nat → Value) (k : Int) (x : Nat) (h : Tr w base tb cb nb N cap M) (hn : n < N) (hi : i < 8) (h2 : M n 2 = .int .u8 0) (hm : m < N) (hf : Fair M m c) (hk : M m (3 + (c - 1)) = .int .i32 k) (hx : M m 27 = .float .f64 x) :
    Calls Yba.prog 25 #[.pointer (some ⟨tb, 0, none⟩), .pointer (some ⟨nb, n * 36, none⟩), .int .i64 i, .int .i32 m] w (ChildPost base tb cb nb N cap n i m M k x w) := by
  go_enter Yba.func25, Yba.ntmps25
  go_wp2_with fail
  refine (entryOf_walk w base tb cb nb N cap m c M k x h hm hf hk hx).mono ?_
  rintro e w1 ⟨z, rfl, hT, hC⟩
  go_wp2_with fail
  refine (place_walk w1 base tb cb nb N cap n i M k x m z hT hn hi h2).mono ?_
  rintro e w2 ⟨rfl, hT2, hC2⟩
  go_wp2_with fail
  go_end0
  exact ⟨z, rfl, hT2, (hC.mono (fun _ _ h => h.elim)).trans hC2 (fun _ _ h => h)⟩
end Go.Proofs.Ybulkbuhe
