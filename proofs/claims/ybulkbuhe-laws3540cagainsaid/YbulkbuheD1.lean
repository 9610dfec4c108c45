/-
  The client of LawS3540COrder: its four functions.
-/
import Derived.Test.YbulkbuheB10
import Derived.OwnWalk
namespace Go.Proofs.Ybulkbuhe
open Go.RowKit Fl
attribute [local go_sem] run_store_float setCell_drewN alloc_drewN
attribute [-go_sem] World.setCell_alloc_at World.setCell_alloc_past

theorem ent7 (args : Array Value) (w : World) : (callFunc 7 args).run Yba.prog w = .ok (.enter 7 args) w := by kernel_rfl
theorem ent8 (args : Array Value) (w : World) : (callFunc 8 args).run Yba.prog w = .ok (.enter 8 args) w := by kernel_rfl
theorem ent9 (args : Array Value) (w : World) : (callFunc 9 args).run Yba.prog w = .ok (.enter 9 args) w := by kernel_rfl
theorem ent10 (args : Array Value) (w : World) : (callFunc 10 args).run Yba.prog w = .ok (.enter 10 args) w := by kernel_rfl
theorem info21 : (Yba.prog.info? 21).map (fun i => (i.zero, i.size, i.bytes)) = some (some (.int .i32 0), 1, 4) := by kernel_rfl

set_option maxHeartbeats 400000 in
theorem value7 (x : Nat) (w : World) : Calls Yba.prog 7 #[.float .f64 x] w (RetPost (.float .f64 x) w) := by
  go_enter Yba.func7, Yba.ntmps7
  go_wp2
  go_ret
  exact ⟨rfl, rfl⟩
set_option maxHeartbeats 400000 in
theorem bar8 (w : World) (bb : Nat) (x : Nat) (h : w.cell? ⟨bb, 0, none⟩ = some (.float .f64 x)) : Calls Yba.prog 8 #[.pointer (some ⟨bb, 0, none⟩)] w (RetPost (.float .f64 x) w) := by
  go_enter Yba.func8, Yba.ntmps8
  go_wp2
  go_ret
  exact ⟨rfl, rfl⟩
def Bound9 (nk b x : Nat) (w : World) (e : Ending) (w' : World) : Prop := e = .returned (.float .f64 x) ∧ w' = w.setCell ⟨nk, 0, none⟩ (.int .i64 ((b + 1 : Nat) : Int))
set_option maxHeartbeats 400000 in
theorem bound9 (w : World) (nk b : Nat) (j : Int) (x : Nat) (h : w.cell? ⟨nk, 0, none⟩ = some (.int .i64 b)) (hf : w.frozen? ⟨nk, 0, none⟩ = false) (hb : b < 100000) : Calls Yba.prog 9 #[.int .i32 j, .float .f64 x, .pointer (some ⟨nk, 0, none⟩)] w (Bound9 nk b x w) := by
  have hb2 : (b : Int) < 100000 := by omega
  go_enter Yba.func9, Yba.ntmps9
  go_wp2
  go_ret
  exact ⟨rfl, by rw [Int.natCast_add]; rfl⟩

/-- The log. -/
def logOf (tr : List Vis) : List Value := tr.map fun x => .int .i32 (x.j : Int)
def Visit10 (base lb : Nat) (v : Value) (tr : List Vis) (j x : Nat) (w : World) (e : Ending) (w' : World) : Prop :=
  e = .returned (.tuple #[.float .f64 x, .float .f64 0, .bool false]) ∧ ∃ g cap w1, w1.ownsRow base 21 1 (.slice (some ⟨g, 0, none⟩) (tr.length + 1) cap) (tr.length + 1) (logOf tr ++ [.int .i32 (j : Int)]) ∧ Chg (fun k => v.ownBlock = some k) w w1 ∧ (v.ownBlock = some g ∨ w.heap.size ≤ g) ∧ w' = w1.setCell ⟨lb, 0, none⟩ (.slice (some ⟨g, 0, none⟩) (tr.length + 1) cap)
set_option maxHeartbeats 2000000 in
set_option maxRecDepth 100000 in
theorem visit10 (w : World) (base bd lb : Nat) (v : Value) (tr : List Vis) (j x : Nat) (hl : w.cell? ⟨lb, 0, none⟩ = some v) (hv : w.ownsRow base 21 1 v tr.length (logOf tr)) (hf : w.frozen? ⟨lb, 0, none⟩ = false) (hne : v.ownBlock ≠ some lb) (hlen : tr.length < 100000) (hb : base ≤ w.heap.size) :
    Calls Yba.prog 10 #[.int .i32 (j : Int), .float .f64 x, .bool false, .pointer (some ⟨bd, 0, none⟩), .pointer (some ⟨lb, 0, none⟩)] w (Visit10 base lb v tr j x w) := by
  obtain ⟨i0, hi, hz, hsz, hby⟩ := info_parts info21
  have own : (w.alloc (.cells #[.int .i32 (j : Int)] 21)).ownsRow base 21 1 v tr.length (logOf tr) := hv.alloc _
  have news : ∀ k u, [Value.int .i32 (j : Int)][k]? = some u → (w.alloc (.cells #[.int .i32 (j : Int)] 21)).cell? ((⟨w.heap.size, 0, none⟩ : Addr).add k) = some u := fun k u hk => by
    rw [show (⟨w.heap.size, 0, none⟩ : Addr).add k = ⟨w.heap.size, k, none⟩ by simp [Addr.add, eq_comm], World.cell?_alloc_new]
    simpa using hk
  have hone : ∀ u ∈ [Value.int .i32 (j : Int)], u.oneCell' = true := fun u hu => by rw [List.mem_singleton.1 hu]; rfl
  have hs2 : (w.alloc (.cells #[.int .i32 (j : Int)] 21)).heap.size = w.heap.size + 1 := by simp
  have hb2 : base ≤ (w.alloc (.cells #[.int .i32 (j : Int)] 21)).heap.size := by rw [hs2]; omega
  have hlt : lb < w.heap.size := World.block_lt_of_cell? w ⟨lb, 0, none⟩ hl
  have haft : ∀ w1, (w.alloc (.cells #[.int .i32 (j : Int)] 21)).grownBy w1 v.ownBlock → w1.cell? ⟨lb, 0, none⟩ = some v ∧ w1.frozen? ⟨lb, 0, none⟩ = false := fun w1 hg => by
    have hn : lb < (w.alloc (.cells #[.int .i32 (j : Int)] 21)).heap.size := by rw [hs2]; omega
    rw [hg.cell_far ⟨lb, 0, none⟩ hn (fun e => hne e.symm), hg.frozen_far ⟨lb, 0, none⟩ hn (fun e => hne e.symm), World.cell?_alloc_lt _ _ _ hlt, frozen?_alloc_cells]
    exact ⟨hl, hf⟩
  have HA : Hid _ := haft
  clear haft
  go_enter Yba.func10, Yba.ntmps10
  go_wp2_with (at_builtin; go_loud (refine wpList_append_lies _ rfl (.tmp 12) (.tmp 14) 28 rfl base 21 i0 _ 1 4 Yba.underlying28 hi hz hsz hby rfl (by decide) v tr.length (logOf tr) rfl own ⟨w.heap.size, 0, none⟩ 1 1 [.int .i32 (j : Int)] rfl rfl news hone (by decide) (by unfold maxLen; omega) (by omega) hb2 (w.heap.size + 1) hs2 ?_); intro g cap w1 hown1 hgrow hlie hlt1; obtain ⟨c1, f1⟩ := HA.out w1 hgrow)
  go_ret3
  exact ⟨rfl, g, cap, w1, hown1, (Chg.alloc _ w _).trans (Chg.grown (S := fun k => v.ownBlock = some k) hgrow (fun k e => e)) (fun _ _ h => h), by rcases hlie with e | e; exact .inl e; exact .inr (by omega), rfl⟩
end Go.Proofs.Ybulkbuhe
