/-
  The numbers under which this dump holds the library's lock, and that it holds it; TryLock at a free lock.
-/
import Derived.Test.YbulkbuqwGreatRows
import Derived.Conc.MuLone
import Derived.WalkKit
import Derived.KernelRfl
namespace Go.Proofs.YbulkbuqwGreat
open Go.MuLone
abbrev muLink : Go.Conc.Locks.MuLink := { lock := 10, unlock := 8, ilock := 14, iunlock := 13, lockSlow := 22, unlockSlow := 21, disable := 15, enable := 16, acquire := 18, relMerge := 19, cas32 := 17, add32 := 20, tMutex := 57, tIMutex := 55, tPMutex := 86, tPIMutex := 87, tPI32 := 89, tUP := 91, tNoCopy := 52, tU32 := 53 }
theorem muLib : Go.Conc.Locks.MuLib Ybaz.prog muLink :=
  ⟨Ybaz.func10, Ybaz.func8, Ybaz.func14, Ybaz.func13, Ybaz.func15, Ybaz.func16, Ybaz.func18, Ybaz.func19, Ybaz.func17, Ybaz.func20, Ybaz.underlying55, Ybaz.runUnderlying55, Ybaz.sizeOf55, Ybaz.isAgg55, Ybaz.zeroValue55, Ybaz.underlying57, Ybaz.runUnderlying57, Ybaz.sizeOf57, Ybaz.isAgg57, Ybaz.zeroValue57, Ybaz.underlying86, Ybaz.runUnderlying86, Ybaz.sizeOf86, Ybaz.isAgg86, Ybaz.zeroValue86, Ybaz.underlying87, Ybaz.runUnderlying87, Ybaz.sizeOf87, Ybaz.isAgg87, Ybaz.zeroValue87, Ybaz.underlying89, Ybaz.runUnderlying89, Ybaz.sizeOf89, Ybaz.isAgg89, Ybaz.zeroValue89, Ybaz.underlying91, Ybaz.runUnderlying91, Ybaz.sizeOf91, Ybaz.isAgg91, Ybaz.zeroValue91, Ybaz.underlying52, Ybaz.runUnderlying52, Ybaz.sizeOf52, Ybaz.isAgg52, Ybaz.zeroValue52, Ybaz.underlying21, Ybaz.runUnderlying21, Ybaz.sizeOf21, Ybaz.isAgg21, Ybaz.zeroValue21, (by kernel_rfl)⟩

set_option maxHeartbeats 800000 in
set_option maxRecDepth 100000 in
theorem trylock_free (a : Addr) (w : World) (hc : w.cell? a = some (.int .i32 0)) (hz : w.frozen? a = false) :
    Calls Ybaz.prog 12 #[.pointer (some a)] w fun e w' => e = .returned (.bool true) ∧ w' = w.setCell a (.int .i32 1) := by
  have hd := disable muLib
  have he := enable muLib
  have ha := acquire muLib
  have h1 : bits .and .i32 0 5 = 0 := by decide
  have h2 : bits .or .i32 0 1 = 1 := by decide
  have hcas := run_call_cas_hit (P := Ybaz.prog) Ybaz.func17 (by kernel_rfl) (by kernel_rfl) (by kernel_rfl) .i32 (by kernel_rfl) (y := 1) hc hz
  have hc' : (w.setCell a (.int .i32 1)).cell? a = some (.int .i32 1) := World.cell?_setCell_same w a _ hc
  have hcv := run_convert_to_unsafe (P := Ybaz.prog) (src := 87) (dst := 91) Ybaz.underlying87 Ybaz.underlying91 (by kernel_rfl) hc'
  have hnot : ∀ (x : Bool) (w : World), (Op.unary .not (.bool x)).run Ybaz.prog w = .ok (.bool (!x)) w := fun _ _ => rfl
  go_enter Ybaz.func12, Ybaz.ntmps12
  go_wp2
  go_ret
  exact ⟨rfl, rfl⟩
end Go.Proofs.YbulkbuqwGreat
