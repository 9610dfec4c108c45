/-
  The arguments of the two laws, opened by their outer form alone; the door's own heap meets the condition.
-/
import Derived.Test.YbulkbuheDoorRows
import Derived.Test.YbulkbuheDoorFl
import Derived.WalkKit
import Derived.ProofKit
import Derived.OpenShut
import Derived.ChangeOld
import Derived.Below
import Derived.LaidMore
import Derived.Stop.Joined
namespace Go.Proofs.YbulkbuheDoor
open Go.ChangeShapes Go.WideShapes Go.ChangeAt Go.RowKit Fl

theorem own : ownKnob Ybad.prog.godebug = none := by kernel_rfl
theorem laidOut : laidOutB Ybad.prog = true := by kernel_rfl
theorem cells46 : Ybad.prog.cellsOf 46 = 6 := by kernel_rfl
theorem cells26 : Ybad.prog.cellsOf 26 = 11 := by kernel_rfl
theorem types46 : Ybad.prog.cellTypes Ybad.prog.depth 46 = some [28, 28, 28, 28, 24, 21] := by kernel_rfl
theorem types26 : Ybad.prog.cellTypes Ybad.prog.depth 26 = some [21, 22, 23, 21, 21, 24, 21, 21, 24, 24, 21] := by kernel_rfl

theorem cell_float {W : World} {r : Reach} {b0 t : Nat} {v : Value} (ht : Ybad.prog.underlying t = some (.float .f64)) (h : Cell.okWide Ybad.prog W r b0 t v) : ∃ b, v = .float .f64 b ∧ Fit b := by
  simp only [Cell.okWide, ht] at h
  cases v <;> simp_all [Cell.ok, FloatKind.has, Fit]
theorem cell_int {W : World} {r : Reach} {b0 t : Nat} {k : IntKind} {v : Value} (ht : Ybad.prog.underlying t = some (.int k)) (h : Cell.okWide Ybad.prog W r b0 t v) : ∃ n, v = .int k n ∧ k.has n := by
  simp only [Cell.okWide, ht] at h
  cases v <;> simp_all [Cell.ok]

theorem open46 {W : World} {r : Reach} {b0 : Nat} {v : Value} (h : Value.okWide Ybad.prog W r b0 46 v) :
    ∃ sub span add lat by_ reach, v = .agg #[.float .f64 sub, .float .f64 span, .float .f64 add, .float .f64 lat, .int .u64 by_, .int .i32 reach] ∧ Fit sub ∧ Fit span ∧ Fit add ∧ Fit lat := by
  simp only [Value.okWide, Ybad.underlying46] at h
  obtain ⟨cs, rfl, hsz, ts, hts, _, hcell⟩ := h
  obtain rfl := Option.some.inj (types46.symm.trans hts)
  rw [cells46] at hsz
  obtain ⟨l⟩ := cs
  match l, hsz with
  | [c0, c1, c2, c3, c4, c5], _ =>
    obtain ⟨u0, e0, h0⟩ := hcell 0 c0 rfl
    obtain ⟨u1, e1, h1⟩ := hcell 1 c1 rfl
    obtain ⟨u2, e2, h2⟩ := hcell 2 c2 rfl
    obtain ⟨u3, e3, h3⟩ := hcell 3 c3 rfl
    obtain ⟨u4, e4, h4⟩ := hcell 4 c4 rfl
    obtain ⟨u5, e5, h5⟩ := hcell 5 c5 rfl
    cases e0; cases e1; cases e2; cases e3; cases e4; cases e5
    obtain ⟨a0, rfl, f0⟩ := cell_float Ybad.underlying28 h0
    obtain ⟨a1, rfl, f1⟩ := cell_float Ybad.underlying28 h1
    obtain ⟨a2, rfl, f2⟩ := cell_float Ybad.underlying28 h2
    obtain ⟨a3, rfl, f3⟩ := cell_float Ybad.underlying28 h3
    obtain ⟨a4, rfl, _⟩ := cell_int Ybad.underlying24 h4
    obtain ⟨a5, rfl, _⟩ := cell_int Ybad.underlying21 h5
    exact ⟨a0, a1, a2, a3, a4, a5, rfl, f0, f1, f2, f3⟩

theorem open26 {W : World} {r : Reach} {b0 : Nat} {v : Value} (h : Value.okWide Ybad.prog W r b0 26 v) :
    ∃ sub span add times reach by_ lat end_ adm rby grp, v = .agg #[.int .i32 sub, .int .u32 span, .int .u16 add, .int .i32 times, .int .i32 reach, .int .u64 by_, .int .i32 lat, .int .i32 end_, .int .u64 adm, .int .u64 rby, .int .i32 grp] ∧
      IntKind.i32.has sub ∧ IntKind.u32.has span ∧ IntKind.u16.has add ∧ IntKind.i32.has times ∧ IntKind.i32.has lat ∧ IntKind.i32.has end_ := by
  simp only [Value.okWide, Ybad.underlying26] at h
  obtain ⟨cs, rfl, hsz, ts, hts, _, hcell⟩ := h
  obtain rfl := Option.some.inj (types26.symm.trans hts)
  rw [cells26] at hsz
  obtain ⟨l⟩ := cs
  match l, hsz with
  | [c0, c1, c2, c3, c4, c5, c6, c7, c8, c9, c10], _ =>
    obtain ⟨u0, e0, h0⟩ := hcell 0 c0 rfl
    obtain ⟨u1, e1, h1⟩ := hcell 1 c1 rfl
    obtain ⟨u2, e2, h2⟩ := hcell 2 c2 rfl
    obtain ⟨u3, e3, h3⟩ := hcell 3 c3 rfl
    obtain ⟨u4, e4, h4⟩ := hcell 4 c4 rfl
    obtain ⟨u5, e5, h5⟩ := hcell 5 c5 rfl
    obtain ⟨u6, e6, h6⟩ := hcell 6 c6 rfl
    obtain ⟨u7, e7, h7⟩ := hcell 7 c7 rfl
    obtain ⟨u8, e8, h8⟩ := hcell 8 c8 rfl
    obtain ⟨u9, e9, h9⟩ := hcell 9 c9 rfl
    obtain ⟨u10, e10, h10⟩ := hcell 10 c10 rfl
    cases e0; cases e1; cases e2; cases e3; cases e4; cases e5; cases e6; cases e7; cases e8; cases e9; cases e10
    obtain ⟨a0, rfl, f0⟩ := cell_int Ybad.underlying21 h0
    obtain ⟨a1, rfl, f1⟩ := cell_int Ybad.underlying22 h1
    obtain ⟨a2, rfl, f2⟩ := cell_int Ybad.underlying23 h2
    obtain ⟨a3, rfl, f3⟩ := cell_int Ybad.underlying21 h3
    obtain ⟨a4, rfl, _⟩ := cell_int Ybad.underlying21 h4
    obtain ⟨a5, rfl, _⟩ := cell_int Ybad.underlying24 h5
    obtain ⟨a6, rfl, f6⟩ := cell_int Ybad.underlying21 h6
    obtain ⟨a7, rfl, f7⟩ := cell_int Ybad.underlying21 h7
    obtain ⟨a8, rfl, _⟩ := cell_int Ybad.underlying24 h8
    obtain ⟨a9, rfl, _⟩ := cell_int Ybad.underlying24 h9
    obtain ⟨a10, rfl, _⟩ := cell_int Ybad.underlying21 h10
    exact ⟨a0, a1, a2, a3, a4, a5, a6, a7, a8, a9, a10, rfl, f0, f1, f2, f3, f6, f7⟩

/-- The door's own heap meets the condition. -/
theorem door_met (os : Os) (args : Array Value) : laidMetH Ybad.prog Rows.lawS3540ALiftRow.laid ((World.doorLaid Ybad.prog 14 os).forCall (fun _ _ => 0) ⟨#[], args, []⟩).memory :=
  laidMetH_of_parts3 (fuel := 8) (laidMet_of_run' 8 (by kernel_rfl) (by kernel_rfl)) (by kernel_rfl) (by kernel_rfl)
end Go.Proofs.YbulkbuheDoor
