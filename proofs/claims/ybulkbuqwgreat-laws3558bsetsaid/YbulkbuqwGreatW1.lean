/-
  The walks of the small functions.
-/
import Derived.Test.YbulkbuqwGreatMaps
import Derived.Test.YbulkbuqwGreatLocks
import Derived.WalkSpells
import Derived.WalkLawsBesides
namespace Go.Proofs.YbulkbuqwGreat
open Go.RowKit Go.MuLone Go.ChangeMaps

set_option maxHeartbeats 400000 in
set_option maxRecDepth 100000 in
theorem try_free (a : Addr) (w : World) (hc : w.cell? a = some (.int .i32 0)) (hz : w.frozen? a = false) :
    Calls Ybaz.prog 7 #[.pointer (some a)] w fun e w' => e = .returned (.bool true) ∧ w' = w.setCell a (.int .i32 1) := by
  go_enter Ybaz.func7, Ybaz.ntmps7
  go_wp2_with (go_at_call 12; refine (trylock_free _ _ hc hz).mono ?_; rintro e w' ⟨rfl, rfl⟩)
  go_ret
  exact ⟨rfl, rfl⟩

set_option maxHeartbeats 400000 in
theorem from_walk (p : Int) (w : World) :
    Calls Ybaz.prog 9 #[.agg #[.int .u64 0, .int .u64 0, .pointer none], .int .u16 p] w fun e w' => e = .returned (.agg #[.int .u64 0, .int .u64 0, .pointer none, .int .u16 p]) ∧
      w' = (w.alloc (.cells #[.int .u64 0, .int .u64 0, .pointer none] 35)).alloc (.cells #[.int .u64 0, .int .u64 0, .pointer none, .int .u16 p] 37) := by
  go_enter Ybaz.func9, Ybaz.ntmps9
  go_wp2
  exact bodyPost_ret (v := .agg #[.int .u64 0, .int .u64 0, .pointer none, .int .u16 p]) (by simp [results, Ybaz.results9, go_sem]) rfl ⟨rfl, rfl⟩

set_option maxHeartbeats 400000 in
theorem ap_walk (p : Int) (w : World) :
    Calls Ybaz.prog 4 #[.int .u16 p] w fun e w' => e = .returned (K p) ∧ Below w.heap.size w w' := by
  go_enter Ybaz.func4, Ybaz.ntmps4
  go_wp2_with (go_at_call 9; refine (from_walk _ _).mono ?_; rintro e w' ⟨rfl, rfl⟩)
  refine bodyPost_ret (v := K p) (by simp [results, Ybaz.results4, go_sem, K]) rfl ⟨rfl, ?_⟩
  exact (((Below.refl _ w).alloc (Nat.le_refl _) _).alloc (by simp) _).alloc (by simp; omega) _

/-- An index, or something below nought. -/
def Idx (xs : List Int) (q : Int) (e : Ending) : Prop := ∃ i : Int, e = .returned (.int .i64 i) ∧ ((0 ≤ i) ↔ q ∈ xs)

set_option maxHeartbeats 400000 in
theorem index_row (b o n : Nat) (cap : Nat) (xs : List Int) (q : Int) (w : World) (hn : xs.length = n) (hn2 : n ≤ 4096) (hc : ∀ i, i < n → w.cell? ⟨b, o + i, none⟩ = some (.int .u16 (xs.getD i 0))) :
    Calls Ybaz.prog 11 #[.slice (some ⟨b, o, none⟩) n cap, .int .u16 q] w fun e w' => Idx xs q e ∧ w' = w := by
  go_enter Ybaz.func11, Ybaz.ntmps11
  go_wp2
  go_loop [8, 5] (fun i _ => ∃ k : Nat, k ≤ n ∧ i = .int .i64 k ∧ q ∉ xs.take k) (fun i _ => n - (intOf i).toNat)
  case atStart => exact ⟨0, Nat.zero_le _, rfl, by simp⟩
  case round =>
    obtain ⟨k, hk, rfl, hq⟩ := hrel
    by_cases hlt : k < n
    · have g := hc k hlt
      have hx : xs.getD k 0 = xs[k] := by simp [List.getD, hn, hlt]
      rw [hx] at g
      have htk : xs.take (k + 1) = xs.take k ++ [xs[k]] := List.take_succ_eq_append_getElem (by omega)
      by_cases he : q = xs[k]
      · have he' : (q == xs[k]) = true := by simpa using he
        go_wp2
        go_ret
        exact ⟨⟨_, rfl, fun _ => List.getElem_mem _, fun _ => by omega⟩, rfl⟩
      · have he' : (q == xs[k]) = false := by simpa using he
        go_wp2
        go_round
        case rel => exact ⟨k + 1, by omega, by go_num, by rw [htk]; simp only [List.mem_append, List.mem_singleton, not_or]; exact ⟨hq, he⟩⟩
        case measure => simp [intOf]; omega
    · rw [List.take_of_length_le (by omega)] at hq
      go_wp2
      go_ret
      exact ⟨⟨_, rfl, fun h => absurd h (by decide), fun h => absurd h hq⟩, rfl⟩

set_option maxHeartbeats 400000 in
theorem index_none (q : Int) (w : World) :
    Calls Ybaz.prog 11 #[.slice none 0 0, .int .u16 q] w fun e w' => e = .returned (.int .i64 (-1)) ∧ w' = w := by
  go_enter Ybaz.func11, Ybaz.ntmps11
  go_wp2
  go_loop [8, 5] (fun i _ => i = .int .i64 0) (fun i _ => (intOf i).toNat)
  case atStart => exact rfl
  case round =>
    subst hrel
    go_wp2
    go_ret
    exact ⟨rfl, rfl⟩

/-- The row of what has been gathered: nil, or cells of its own. -/
def Row (w : World) (v : Value) (xs : List Int) : Prop :=
  (v = .slice none 0 0 ∧ xs = []) ∨ ∃ b o cap, v = .slice (some ⟨b, o, none⟩) xs.length cap ∧ ∀ i, i < xs.length → w.cell? ⟨b, o + i, none⟩ = some (.int .u16 (xs.getD i 0))

set_option maxHeartbeats 400000 in
theorem contains_walk (v : Value) (xs : List Int) (q : Int) (w : World) (h : Row w v xs) (hn : xs.length ≤ 4096) :
    Calls Ybaz.prog 6 #[v, .int .u16 q] w fun e w' => e = .returned (.bool (decide (q ∈ xs))) ∧ w' = w := by
  rcases h with ⟨rfl, rfl⟩ | ⟨b, o, cap, rfl, hc⟩
  · go_enter Ybaz.func6, Ybaz.ntmps6
    go_wp2_with (go_at_call 11; refine (index_none _ _).mono ?_; rintro e w' ⟨rfl, rfl⟩)
    go_ret
    exact ⟨by simp, rfl⟩
  · go_enter Ybaz.func6, Ybaz.ntmps6
    go_wp2_with fail
    refine (index_row b o xs.length cap xs q w rfl hn hc).mono ?_
    rintro e w' ⟨⟨i, rfl, hi⟩, rfl⟩
    go_wp2_with fail
    go_ret
    refine ⟨congrArg (fun b => Ending.returned (.bool b)) ?_, rfl⟩
    simp
end Go.Proofs.YbulkbuqwGreat
