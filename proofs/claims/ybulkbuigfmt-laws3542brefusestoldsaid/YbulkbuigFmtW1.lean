/-
  The walks of checkNamed and LawS3542BRefuses.
-/
import Derived.Test.YbulkbuigFmtFm
import Derived.WalkKit
import Derived.WalkSpells
import Derived.WalkLawsBesides
namespace Go.Proofs.YbulkbuigFmt
open Go.RowKit Go.Extern.Stop Go.Stop Go.Extern
attribute [local go_sem] call13 call17 guard_ok fmt0 fmt1r op3_100 op9_115 op9_113w

set_option maxHeartbeats 400000 in
theorem check_ok (what : ByteArray) (n most : Int) (w : World) (h : ¬ most < n) :
    Calls Ybaf.prog 9 #[.string what, .int .i64 n, .int .i64 most] w fun e w' => e = .returned .nilIface ∧ w' = w := by
  go_enter Ybaf.func9, Ybaf.ntmps9
  go_wp2
  go_ret
  exact ⟨rfl, rfl⟩

set_option maxHeartbeats 400000 in
theorem check_bad (F : Interp) (what : ByteArray) (n most : Int) (w : World) (hF : F.answers w.tape) (h : most < n) :
    Calls Ybaf.prog 9 #[.string what, .int .i64 n, .int .i64 most] w fun e w' => e = .returned (.iface 32 (.pointer (some ⟨w.heap.size + 1, 0, none⟩))) ∧ Below w.heap.size w w' := by
  have hF' := answers_open hF
  go_enter Ybaf.func9, Ybaf.ntmps9
  go_wp2
  go_ret
  exact ⟨rfl, (((Below.refl _ w).alloc (Nat.le_refl _) _).alloc (by simp) _).drew⟩

set_option maxHeartbeats 400000 in
theorem law_le (what : ByteArray) (n most : Int) (w : World) (h : ¬ most < n) :
    Calls Ybaf.prog 5 #[.string what, .int .i64 n, .int .i64 most] w fun e w' => e = .returned (.bool true) ∧ w' = w := by
  have h' : n ≤ most := by omega
  go_enter Ybaf.func5, Ybaf.ntmps5
  go_wp2_with (go_at_call 9; refine (check_ok _ _ _ _ (by assumption)).mono ?_; rintro e w' ⟨rfl, rfl⟩)
  go_ret
  exact ⟨rfl, rfl⟩

set_option maxHeartbeats 400000 in
theorem law_gt (F : Interp) (what : ByteArray) (n most : Int) (w : World) (hF : F.answers w.tape) (h : most < n) :
    Calls Ybaf.prog 5 #[.string what, .int .i64 n, .int .i64 most] w fun e w' => e = .returned (.bool true) ∧ Below w.heap.size w w' := by
  have h' : ¬ n ≤ most := by omega
  have hta : ∀ (a : Option Addr) (w : World), (Instr.typeAssert (.iface 32 (.pointer a)) 23 32 true).run Ybaf.prog w = .ok (.tuple #[.pointer a, .bool true]) w := fun _ _ => by kernel_rfl
  go_enter Ybaf.func5, Ybaf.ntmps5
  go_wp2_with (go_at_call 9; refine (check_bad F _ _ _ _ (by assumption) (by assumption)).mono ?_; rintro e w' ⟨rfl, hb⟩)
  go_ret
  exact ⟨rfl, hb⟩
end Go.Proofs.YbulkbuigFmt
