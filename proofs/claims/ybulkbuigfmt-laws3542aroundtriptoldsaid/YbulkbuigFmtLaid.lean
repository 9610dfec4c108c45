/-
  From the listed variables to what the walks ask; the witness's world (the door's own run).
-/
import Derived.Test.YbulkbuigFmtW3
import Derived.ProofKit
import Derived.ChangeOld
import Derived.ShutString
import Derived.LaidMore
import Derived.Stop.JoinedAt
import Derived.Stop.Texts
import Derived.Stop.JoinedTold
import Derived.Stop.LaidErr
import Derived.Lib.LaidTab
import Derived.Deep.DeepWitnessRef
namespace Go.Proofs.YbulkbuigFmt
open Go.ChangeShapes Go.WideShapes Go.ChangeAt Go.RowKit Go.Kit
open Go.Extern.Stop Go.Stop Go.Extern

theorem own : ownKnob Ybaf.prog.godebug = none := by kernel_rfl
theorem laidOut : laidOutB Ybaf.pinned.checked.prog = true := by kernel_rfl
theorem stops : Ybaf.pinned.checked.prog.stops = Rows.lawS3542AModelRow.stops := by kernel_rfl
theorem stopKnobs : Ybaf.pinned.checked.prog.stopKnobs = [] := by kernel_rfl
theorem quiet (os : Os) : Stop.quiet Ybaf.pinned.checked.prog os := by
  intro k hk
  rw [stopKnobs] at hk
  cases hk
/-- The name of the type of the two errors, as the given rows list it. -/
def errName : String := match (Rows.laid_strconv_ErrRange (H := Unit)) with
  | .iface n _ => n
  | _ => ""
theorem row60 (u : TypeId) (h : Ybaf.prog.typeName? 3 u = some errName) : u = 60 :=
  typeName_ptr_named (nm := "errors.errorString") (by kernel_rfl) (by kernel_rfl) (by decide) u (h.trans (by kernel_rfl))

/-- The five listed variables. -/
def five : List (String × DataW Unit) := Rows.lawS3542AModelRow.laid

theorem door_met (os : Os) (args : Array Value) : laidMetH Ybaf.prog five ((World.doorLaid Ybaf.prog 62 os).forCall (fun _ _ => 0) ⟨#[], args, []⟩).memory :=
  laidMetH_of_parts3 (fuel := 8) (laidMet_of_run' 8 (by kernel_rfl) (by kernel_rfl)) (by kernel_rfl) (by kernel_rfl)

theorem vars_of_laid {W : World} (h : laidMetH Ybaf.prog five W) : Vars W := by
  rw [MakeChecks.laidMetH_plain _ _ _ (by kernel_rfl)] at h
  have h5 : laidMet Ybaf.prog Rows.lawS3542AModelRow.laid W := h
  have ht : Lib.TabIs Ybaf.prog W (Rows.lawS3542AModelRow.named.getD 2 "") .u64 Lib.pow10Tab :=
    Lib.tabIs_of_head (g := 2) (t := 69) (e := 38) (n := 20) (by kernel_rfl) (by kernel_rfl) Ybaf.underlying69 Ybaf.underlying38 (by kernel_rfl) (by kernel_rfl) h5.tail.tail
  obtain ⟨a1, t1, hv1, _⟩ := laid_sentinel (g := 1) h5.tail.tail.tail (by kernel_rfl) (by kernel_rfl) Ybaf.underlying23 row60 Ybaf.underlying60 Ybaf.underlying62 rfl rfl Ybaf.underlying9 (by kernel_rfl) (by kernel_rfl)
  obtain ⟨a0, t0, hv0, _⟩ := laid_sentinel (g := 0) h5.tail.tail.tail.tail (by kernel_rfl) (by kernel_rfl) Ybaf.underlying23 row60 Ybaf.underlying60 Ybaf.underlying62 rfl rfl Ybaf.underlying9 (by kernel_rfl) (by kernel_rfl)
  have c0 := World.var?_cell (P := Ybaf.prog) (g := 0) (by kernel_rfl) hv0 0
  have c1 := World.var?_cell (P := Ybaf.prog) (g := 1) (by kernel_rfl) hv1 0
  exact ⟨ht, ⟨_, c0, _, _, rfl⟩, ⟨_, c1, _, _, rfl⟩⟩
end Go.Proofs.YbulkbuigFmt
