/-
  The walks of the small functions: has, withBit, reach, pass, compare, at, node, after, items.
-/
import Derived.Test.YbulkbuheA0
import Derived.BigQuiet
namespace Go.Proofs.Ybulkbuhe
open Go.RowKit

theorem and_zero (y : Int) : bits .and .u8 0 y = 0 := by
  show IntKind.u8.wrap ((BitVec.ofInt 8 0 &&& BitVec.ofInt 8 y).toNat : Nat) = 0
  rw [show BitVec.ofInt 8 0 = 0#8 from rfl, BitVec.zero_and]; rfl
theorem andNot_zero (y : Int) : bits .andNot .u8 0 y = 0 := by
  show IntKind.u8.wrap ((BitVec.ofInt 8 0 &&& ~~~ BitVec.ofInt 8 y).toNat : Nat) = 0
  rw [show BitVec.ofInt 8 0 = 0#8 from rfl, BitVec.zero_and]; rfl
theorem and_1023 (n : Int) : bits .and .i64 n 1023 = n % 1024 := by
  have h1 : (BitVec.ofInt 64 1023).toNat = 2 ^ 10 - 1 := by decide
  have key : (BitVec.ofInt 64 n &&& BitVec.ofInt 64 1023).toNat = (n % ((2 ^ 64 : Nat) : Int)).toNat % 2 ^ 10 := by
    rw [BitVec.toNat_and, BitVec.toNat_ofInt, h1, Nat.and_two_pow_sub_one_eq_mod]
  show IntKind.i64.wrap ((BitVec.ofInt 64 n &&& BitVec.ofInt 64 1023).toNat : Nat) = n % 1024
  rw [key, IntKind.wrap_i64]
  omega

set_option maxHeartbeats 400000 in
theorem has_walk (i : Int) (w : World) (h0 : 0 ≤ i) (h1 : i < 8) :
    Calls Yba.prog 31 #[.int .u8 0, .int .i64 i] w fun e w' => e = .returned (.bool false) ∧ w' = w := by
  have hz := and_zero
  go_enter Yba.func31, Yba.ntmps31
  go_wp2
  go_ret
  exact ⟨rfl, rfl⟩
set_option maxHeartbeats 400000 in
theorem withBit_walk (i : Int) (w : World) (h0 : 0 ≤ i) (h1 : i < 8) :
    Calls Yba.prog 27 #[.int .u8 0, .int .i64 i, .bool false] w fun e w' => e = .returned (.int .u8 0) ∧ w' = w := by
  have hz := andNot_zero
  go_enter Yba.func27, Yba.ntmps27
  go_wp2
  go_ret
  exact ⟨rfl, rfl⟩
set_option maxHeartbeats 400000 in
theorem compare_walk (a b : Int) (w : World) :
    Calls Yba.prog 50 #[.int .i32 a, .int .i32 b] w fun e w' => e = .returned (.int .i64 (if a < b then -1 else if b < a then 1 else 0)) ∧ w' = w := by
  go_enter Yba.func50, Yba.ntmps50
  go_wp2
  all_goals go_ret
  all_goals exact ⟨rfl, rfl⟩
set_option maxHeartbeats 400000 in
theorem at_walk (w : World) (base tb cb nb N cap n : Nat) (M : Nat → Nat → Value) (h : Tr w base tb cb nb N cap M) (hn : n < N) :
    Calls Yba.prog 26 #[.pointer (some ⟨tb, 0, none⟩), .int .i64 n] w fun e w' => e = .returned (.pointer (some ⟨nb, n * 36, none⟩)) ∧ w' = w := by
  obtain ⟨c, hc⟩ := h.t0
  have c0 := h.c0
  have hs := h.small
  have hq : (n : Int) / 1024 = 0 := by omega
  have ha : bits BinOp.and IntKind.i64 (n : Int) 1023 = (n : Int) := by rw [and_1023]; omega
  go_enter Yba.func26, Yba.ntmps26
  go_wp2_with (simp only [hq, ha])
  go_ret
  exact ⟨rfl, rfl⟩
set_option maxHeartbeats 400000 in
theorem node_walk (w : World) (base tb cb nb N cap n : Nat) (M : Nat → Nat → Value) (h : Tr w base tb cb nb N cap M) (hn : n < N) :
    Calls Yba.prog 16 #[.pointer (some ⟨tb, 0, none⟩), .int .i32 n] w fun e w' => e = .returned (.pointer (some ⟨nb, n * 36, none⟩)) ∧ w' = w := by
  have hs := h.small
  go_enter Yba.func16, Yba.ntmps16
  go_wp2_with (go_at_call 26; refine (at_walk _ base tb cb nb N cap n M h hn).mono ?_; rintro e w' ⟨rfl, rfl⟩)
  go_ret
  exact ⟨rfl, rfl⟩
set_option maxHeartbeats 400000 in
theorem reach_walk (w : World) (nb n : Nat) (i : Int) (s : Value) (h : w.cell? ⟨nb, n * 36 + 2, none⟩ = some (.int .u8 0)) (h0 : 0 ≤ i) (h1 : i < 8) :
    Calls Yba.prog 30 #[.pointer (some ⟨nb, n * 36, none⟩), .int .i64 i, s] w fun e w' => e = .returned (.tuple #[]) ∧ w' = w := by
  go_enter Yba.func30, Yba.ntmps30
  go_wp2_with (go_at_call 31; refine (has_walk _ _ h0 h1).mono ?_; rintro e w' ⟨rfl, rfl⟩)
  go_end0
  exact ⟨rfl, rfl⟩
set_option maxHeartbeats 400000 in
theorem pass_walk (w : World) (t : Value) (nb n : Nat) (i : Int) (s : Value) (h : w.cell? ⟨nb, n * 36 + 2, none⟩ = some (.int .u8 0)) (h0 : 0 ≤ i) (h1 : i < 8) :
    Calls Yba.prog 24 #[t, .pointer (some ⟨nb, n * 36, none⟩), .int .i64 i, s] w fun e w' => e = .returned (.tuple #[]) ∧ w' = w := by
  have hnot : ∀ (x : Bool) (w : World), (Op.unary .not (.bool x)).run Yba.prog w = .ok (.bool (!x)) w := fun _ _ => rfl
  go_enter Yba.func24, Yba.ntmps24
  go_wp2_with (go_at_call 31; refine (has_walk _ _ h0 h1).mono ?_; rintro e w' ⟨rfl, rfl⟩)
  refine bodyPost_ret (results_none rfl _ _ _) rfl ?_
  exact ⟨rfl, rfl⟩

theorem run_compare (x : Int) (w : World) : (method 215 37 (.int .i32 x) "example.com/ledgerline/ledgerline/internal/sched.compare").run Yba.prog w = .ok (50, .int .i32 x) w := by kernel_rfl

/-- The first entry after the key, or the count. -/
def IsAfter (ks : Nat → Int) (key : Int) (c r : Nat) : Prop := r ≤ c ∧ (∀ j, j < r → ks j ≤ key) ∧ (r < c → key < ks r)
def AfterPost (ks : Nat → Int) (key : Int) (c : Nat) (w : World) (e : Ending) (w' : World) : Prop := ∃ r : Nat, IsAfter ks key c r ∧ e = .returned (.int .i64 r) ∧ w' = w

set_option maxHeartbeats 1000000 in
set_option maxRecDepth 100000 in
theorem after_walk (w : World) (nb n c : Nat) (key : Int) (ks : Nat → Int) (h0 : w.cell? ⟨nb, n * 36, none⟩ = some (.int .i32 c)) (hc : c ≤ 8) (hk : ∀ i, i < c → w.cell? ⟨nb, n * 36 + 3 + i, none⟩ = some (.int .i32 (ks i))) :
    Calls Yba.prog 29 #[.pointer (some ⟨nb, n * 36, none⟩), .int .i32 key, .int .i64 0] w (AfterPost ks key c w) := by
  have hm := run_compare
  go_enter Yba.func29, Yba.ntmps29
  go_wp2_with fail
  go_loopw [2] (fun v wr => ∃ i : Nat, i ≤ c ∧ v = .int .i64 i ∧ (∀ j, j < i → ks j ≤ key) ∧ wr = w) (fun v _ => c - (intOf v).toNat)
  case atStart => exact ⟨0, Nat.zero_le _, rfl, fun j hj => absurd hj (Nat.not_lt_zero _), rfl⟩
  case round =>
    obtain ⟨i, hi, rfl, hj, rfl⟩ := hrel
    have HJ : Hid (∀ j, j < i → ks j ≤ key) := hj
    clear hj
    by_cases hlt : i < c
    · have hki := hk i hlt
      have HK : Hid (∀ i, i < c → wr.cell? ⟨nb, n * 36 + 3 + i, none⟩ = some (.int .i32 (ks i))) := hk
      clear hk
      by_cases hle : ks i ≤ key
      · go_wp2_with fail
        refine (compare_walk _ _ _).mono ?_
        rintro e w' ⟨rfl, rfl⟩
        have hd : ((if ks i < key then (-1 : Int) else if key < ks i then 1 else 0) ≤ 0) := by split <;> (try split) <;> omega
        have HX : Hid (ks i ≤ key) := hle
        clear hle
        generalize (if ks i < key then (-1 : Int) else if key < ks i then 1 else 0) = x at hd
        go_wp2_with fail
        go_roundw
        case rel => exact ⟨i + 1, by omega, by go_num, fun j hj => by rcases Nat.lt_succ_iff_lt_or_eq.1 hj with h | h; exact HJ.out j h; rw [h]; exact HX.out, by trivial⟩
        case measure => simp [intOf]; omega
      · go_wp2_with fail
        refine (compare_walk _ _ _).mono ?_
        rintro e w' ⟨rfl, rfl⟩
        have hd : decide ((if ks i < key then (-1 : Int) else if key < ks i then 1 else 0) ≤ 0) = false := by rw [decide_eq_false_iff_not]; split <;> (try split) <;> omega
        have HX : Hid (key < ks i) := by show key < ks i; omega
        clear hle
        generalize (if ks i < key then (-1 : Int) else if key < ks i then 1 else 0) = x at hd
        go_wp2_with fail
        go_ret
        exact ⟨i, ⟨hi, HJ.out, fun _ => HX.out⟩, rfl, rfl⟩
    · have d : decide ((i : Int) < (c : Int)) = false := by rw [decide_eq_false_iff_not]; omega
      go_wp2_with fail
      go_ret
      exact ⟨i, ⟨hi, HJ.out, fun h => absurd h hlt⟩, rfl, rfl⟩

def ItemsPost (w : World) (e : Ending) (w' : World) : Prop := ∃ r : Int, e = .returned (.int .i32 r) ∧ ∃ n, w' = w.drewN n

set_option maxHeartbeats 1000000 in
set_option maxRecDepth 100000 in
theorem items_leaf (w : World) (nb n : Nat) (c : Int) (h0 : w.cell? ⟨nb, n * 36, none⟩ = some (.int .i32 c)) (h1 : w.cell? ⟨nb, n * 36 + 1, none⟩ = some (.bool true)) :
    Calls Yba.prog 28 #[.pointer (some ⟨nb, n * 36, none⟩)] w (ItemsPost w) := by
  go_enter Yba.func28, Yba.ntmps28
  go_wp2_with fail
  go_ret
  exact ⟨c, rfl, 0, (World.drewN_zero _).symm⟩
set_option maxHeartbeats 1000000 in
set_option maxRecDepth 100000 in
theorem items_branch (w : World) (nb n c : Nat) (sz : Nat → Int) (h0 : w.cell? ⟨nb, n * 36, none⟩ = some (.int .i32 c)) (hc : c ≤ 8) (h1 : w.cell? ⟨nb, n * 36 + 1, none⟩ = some (.bool false)) (hz : ∀ i, i < 8 → w.cell? ⟨nb, n * 36 + 28 + i, none⟩ = some (.int .i32 (sz i))) :
    Calls Yba.prog 28 #[.pointer (some ⟨nb, n * 36, none⟩)] w (ItemsPost w) := by
  have HZ : Hid (∀ i, i < 8 → w.cell? ⟨nb, n * 36 + 28 + i, none⟩ = some (.int .i32 (sz i))) := hz
  clear hz
  go_enter Yba.func28, Yba.ntmps28
  go_wp2_with fail
  have hc1 : (c : Int) ≤ 8 := by omega
  have hc0 : (0 : Int) ≤ c := by omega
  go_quiet (fail)
  go_wp2_with fail
  go_loopw [3, 23] (fun v u wr => ∃ (k : Nat) (r : Int), k ≤ c ∧ u = .int .i64 k ∧ v = .int .i32 r ∧ wr = w.drewN nq) (fun _ u _ => c - (intOf u).toNat)
  case atStart => exact ⟨0, 0, Nat.zero_le _, rfl, rfl, rfl⟩
  case round =>
    obtain ⟨k, r, hk, rfl, rfl, rfl⟩ := hrel
    by_cases hlt : k < c
    · have g := HZ.out k (by omega)
      go_wp2_with fail
      go_roundw
      case rel => exact ⟨k + 1, _, by omega, by go_num, rfl, by trivial⟩
      case measure => simp [intOf]; omega
    · have d : decide ((k : Int) < (c : Int)) = false := by rw [decide_eq_false_iff_not]; omega
      go_wp2_with fail
      go_ret
      exact ⟨r, rfl, nq, rfl⟩
end Go.Proofs.Ybulkbuhe
