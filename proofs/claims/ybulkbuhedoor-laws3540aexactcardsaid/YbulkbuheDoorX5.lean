/-
  The walk of the law LawS3540AExact.
-/
import Derived.Test.YbulkbuheDoorX4
import Derived.Deep.CutRange
import Derived.Test.YbulkbuheDoorLex
namespace Go.Proofs.YbulkbuheDoor
open Go.RowKit Fl
set_option linter.unusedVariables false
attribute [local go_sem] run_store_float setCell_drewN alloc_drewN

/-- 'float64(n)' and the order under letters (so that no proof's check lays them open). -/
structure Letters (F : Int → Nat) (O : Nat → Nat → Option Ordering) : Prop where
  f : ∀ n, floatOfInt .f64 n = F n
  o : ∀ x y, FloatKind.f64.format.order x y = O x y
variable {F : Int → Nat} {O : Nat → Nat → Option Ordering}
theorem Letters.is (h : Letters F O) (n : Int) (hs : n.natAbs < 9007199254740992) : I (F n) n := by rw [← h.f]; exact ofInt_I n hs
theorem Letters.fit (h : Letters F O) (n : Int) : Fit (F n) := by rw [← h.f]; exact Ieee.double.write_lt (.number (n < 0) n.natAbs 0)
theorem Letters.eq (h : Letters F O) {x : Nat} {n : Int} (hx : I x n) (hs : n.natAbs < 9007199254740992) : O x (F n) = some .eq := by
  have : FloatKind.f64.format.order x (F n) = some (compare n n) := order_I hx (h.is n hs)
  rw [← h.o, this, cmp_self]

def argX (sub span add times reach by_ lat end_ adm rby grp : Int) : Array Value := #[.int .i32 sub, .int .u32 span, .int .u16 add, .int .i32 times, .int .i32 reach, .int .u64 by_, .int .i32 lat, .int .i32 end_, .int .u64 adm, .int .u64 rby, .int .i32 grp]
def jobX (F : Int → Nat) (sub span lat end_ adm rby grp : Int) : Array Value := #[.float .f64 (F end_), .int .u64 adm, .int .u64 rby, .float .f64 (F sub), .float .f64 (F span), .float .f64 0, .float .f64 (F lat), .float .f64 0, .float .f64 0,
  .pointer none, .int .i32 grp, .bool false, .bool false, .float .f64 0, .pointer none, .float .f64 0, .pointer none, .float .f64 0, .pointer none, .string ⟨#[]⟩, .float .f64 0, .float .f64 0, .int .i64 0, .float .f64 0, .float .f64 0,
  .string ⟨#[]⟩, .float .f64 0, .bool false, .bool false, .bool false, .bool false, .string ⟨#[]⟩, .slice none 0 0, .float .f64 0, .float .f64 0, .float .f64 0, .float .f64 0, .float .f64 0, .pointer none, .bool false, .float .f64 0, .int .i64 0]

def startX (F : Int → Nat) (w : World) (sub span add times reach by_ lat end_ adm rby grp : Int) : World :=
  (w.alloc (.cells (argX sub span add times reach by_ lat end_ adm rby grp) 26)).alloc (.cells (jobX F sub span lat end_ adm rby grp) 40)

/-- What is known ahead of the raise. -/
structure Ahead (F : Int → Nat) (w W : World) (sub span add times reach by_ lat end_ adm rby grp : Int) : Prop where
  size : W.heap.size = w.heap.size + 1 + 1
  arg : ∀ i, W.cell? ⟨w.heap.size, i, none⟩ = (argX sub span add times reach by_ lat end_ adm rby grp)[i]?
  job : ∀ i, W.cell? ⟨w.heap.size + 1, i, none⟩ = (jobX F sub span lat end_ adm rby grp)[i]?
  soft : ∀ i, W.frozen? ⟨w.heap.size + 1, i, none⟩ = false
  below : Below w.heap.size w W

theorem startX_ahead (F : Int → Nat) (w : World) (sub span add times reach by_ lat end_ adm rby grp : Int) : Ahead F w (startX F w sub span add times reach by_ lat end_ adm rby grp) sub span add times reach by_ lat end_ adm rby grp := by
  have z1 : (w.alloc (.cells (argX sub span add times reach by_ lat end_ adm rby grp) 26)).heap.size = w.heap.size + 1 := by simp
  unfold startX
  refine ⟨by simp, fun i => ?_, fun i => ?_, fun i => ?_, ?_⟩
  · rw [World.cell?_alloc_lt _ _ _ (by show w.heap.size < _; rw [z1]; omega), World.cell?_alloc_new]
  · rw [← z1, World.cell?_alloc_new]
  · rw [World.frozen?_alloc_at _ _ _ _ z1.symm]
  · exact ((Below.refl w.heap.size w).alloc (Nat.le_refl _) _).alloc (by rw [z1]; omega) _

/-- What the law reads behind the raise. -/
structure After (F : Int → Nat) (w W : World) (sub span add times by_ lat end_ adm grp : Int) (sp bd le : Nat) : Prop where
  a0 : W.cell? ⟨w.heap.size, 0, none⟩ = some (.int .i32 sub)
  a1 : W.cell? ⟨w.heap.size, 1, none⟩ = some (.int .u32 span)
  a2 : W.cell? ⟨w.heap.size, 2, none⟩ = some (.int .u16 add)
  a3 : W.cell? ⟨w.heap.size, 3, none⟩ = some (.int .i32 times)
  a5 : W.cell? ⟨w.heap.size, 5, none⟩ = some (.int .u64 by_)
  a6 : W.cell? ⟨w.heap.size, 6, none⟩ = some (.int .i32 lat)
  a7 : W.cell? ⟨w.heap.size, 7, none⟩ = some (.int .i32 end_)
  a8 : W.cell? ⟨w.heap.size, 8, none⟩ = some (.int .u64 adm)
  a10 : W.cell? ⟨w.heap.size, 10, none⟩ = some (.int .i32 grp)
  j0 : W.cell? ⟨w.heap.size + 1, 0, none⟩ = some (.float .f64 (F end_))
  j1 : W.cell? ⟨w.heap.size + 1, 1, none⟩ = some (.int .u64 adm)
  j2 : W.cell? ⟨w.heap.size + 1, 2, none⟩ = some (.int .u64 by_)
  j3 : W.cell? ⟨w.heap.size + 1, 3, none⟩ = some (.float .f64 (F sub))
  j4 : W.cell? ⟨w.heap.size + 1, 4, none⟩ = some (.float .f64 sp)
  j5 : W.cell? ⟨w.heap.size + 1, 5, none⟩ = some (.float .f64 bd)
  j6 : W.cell? ⟨w.heap.size + 1, 6, none⟩ = some (.float .f64 (F lat))
  j7 : W.cell? ⟨w.heap.size + 1, 7, none⟩ = some (.float .f64 le)
  j10 : W.cell? ⟨w.heap.size + 1, 10, none⟩ = some (.int .i32 grp)
  j11 : W.cell? ⟨w.heap.size + 1, 11, none⟩ = some (.bool false)
  j12 : W.cell? ⟨w.heap.size + 1, 12, none⟩ = some (.bool false)
  below : Below w.heap.size w W

theorem Ahead.after {w W : World} {sub span add times reach by_ lat end_ adm rby grp : Int} (h : Ahead F w W sub span add times reach by_ lat end_ adm rby grp) (sp bd le n : Nat) (o : Obj) :
    After F w (((set4 W (w.heap.size + 1) sp bd le by_).alloc o).drewN n) sub span add times by_ lat end_ adm grp sp bd le := by
  have hz := h.size
  have za : ∀ b i, b < w.heap.size + 2 → (((set4 W (w.heap.size + 1) sp bd le by_).alloc o).drewN n).cell? ⟨b, i, none⟩ = (set4 W (w.heap.size + 1) sp bd le by_).cell? ⟨b, i, none⟩ := fun b i hb => by
    rw [World.cell?_drewN]; exact World.cell?_alloc_lt _ _ _ (by show b < _; rw [set4_size]; omega)
  have zo : ∀ i, (((set4 W (w.heap.size + 1) sp bd le by_).alloc o).drewN n).cell? ⟨w.heap.size, i, none⟩ = (argX sub span add times reach by_ lat end_ adm rby grp)[i]? := fun i => by rw [za _ i (by omega), set4_other _ _ _ _ _ _ _ _ (by omega), h.arg]
  have zk : ∀ i, 4 ≠ i → 5 ≠ i → 7 ≠ i → 2 ≠ i → (((set4 W (w.heap.size + 1) sp bd le by_).alloc o).drewN n).cell? ⟨w.heap.size + 1, i, none⟩ = (jobX F sub span lat end_ adm rby grp)[i]? := fun i h4 h5 h7 h2 => by rw [za _ i (by omega), set4_kept _ _ _ _ _ _ _ h4 h5 h7 h2, h.job]
  obtain ⟨n2, n4, n5, n7⟩ := set4_new W (w.heap.size + 1) sp bd le by_ ⟨_, h.job 2⟩ ⟨_, h.job 4⟩ ⟨_, h.job 5⟩ ⟨_, h.job 7⟩
  refine ⟨?_, ?_, ?_, ?_, ?_, ?_, ?_, ?_, ?_, ?_, ?_, (za _ 2 (by omega)).trans n2, ?_, (za _ 4 (by omega)).trans n4, (za _ 5 (by omega)).trans n5, ?_, (za _ 7 (by omega)).trans n7, ?_, ?_, ?_, ?_⟩
  · exact zo 0
  · exact zo 1
  · exact zo 2
  · exact zo 3
  · exact zo 5
  · exact zo 6
  · exact zo 7
  · exact zo 8
  · exact zo 10
  · exact zk 0 (by decide) (by decide) (by decide) (by decide)
  · exact zk 1 (by decide) (by decide) (by decide) (by decide)
  · exact zk 3 (by decide) (by decide) (by decide) (by decide)
  · exact zk 6 (by decide) (by decide) (by decide) (by decide)
  · exact zk 10 (by decide) (by decide) (by decide) (by decide)
  · exact zk 11 (by decide) (by decide) (by decide) (by decide)
  · exact zk 12 (by decide) (by decide) (by decide) (by decide)
  · have hb := h.below.trans ((set4_below W (w.heap.size + 1) sp bd le by_ w.heap.size (by omega)).alloc (by rw [set4_size]; omega) o)
    exact ⟨hb.os, hb.tape, hb.output, hb.size, hb.block⟩

theorem Ahead.is {w W : World} {sub span add times reach by_ lat end_ adm rby grp : Int} (h : Ahead F w W sub span add times reach by_ lat end_ adm rby grp) : Job W (w.heap.size + 1) (F sub) (F lat) :=
  ⟨h.job 3, ⟨_, h.job 4⟩, ⟨_, h.job 5⟩, h.job 6, ⟨_, h.job 7⟩, h.soft⟩
theorem Ahead.tab {w W : World} {sub span add times reach by_ lat end_ adm rby grp : Int} (h : Ahead F w W sub span add times reach by_ lat end_ adm rby grp) (hT : Tab w) (hs : 1 < w.heap.size) : Tab W := fun j hj => by
  rw [h.below.cell (p := ⟨1, j, none⟩) hs]; exact hT j hj

def TruePost (w : World) (e : Ending) (w' : World) : Prop := e = .returned (.bool true) ∧ Below w.heap.size w w'

set_option maxHeartbeats 3000000 in
set_option maxRecDepth 100000 in
theorem law_zero (hLe : Letters F O) (sub span add times reach by_ lat end_ adm rby grp : Int) (w : World) (s1 : -2147483648 ≤ sub) (s2 : sub < 2147483648) (p1 : 0 ≤ span) (p2 : span < 4294967296) (d1 : 0 ≤ add) (d2 : add < 65536) (l1 : -2147483648 ≤ lat) (l2 : lat < 2147483648) (e1 : -2147483648 ≤ end_) (e2 : end_ < 2147483648) (t1 : -2147483648 ≤ times) (t2 : times < 2147483648)  (tab : Tab w) (hsz : 1 < w.heap.size) :
    Calls Ybad.prog 3 #[.agg #[.int .i32 sub, .int .u32 span, .int .u16 add, .int .i32 0, .int .i32 reach, .int .u64 by_, .int .i32 lat, .int .i32 end_, .int .u64 adm, .int .u64 rby, .int .i32 grp]] w (TruePost w) := by
  have hf := hLe.f
  go_enter Ybad.func3, Ybad.ntmps3
  go_wp2_with fail
  have hA := startX_ahead F w sub span add 0 reach by_ lat end_ adm rby grp
  have hz := hA.size
  refine (raise_zero (w.heap.size + 1) (F sub) (F lat) (F span) (F add) by_ reach sub lat span add (startX F w sub span add 0 reach by_ lat end_ adm rby grp) (by omega) hA.is (hA.job 4) ⟨_, hA.job 2⟩ (hLe.fit sub) (hLe.fit lat) (hLe.fit span) (hLe.fit add) (hLe.is sub (by omega)) (hLe.is lat (by omega)) (hLe.is span (by omega)) (hLe.is add (by omega)) (by omega) (by omega) p1 p2 d1 d2).mono ?_
  rintro e W ⟨sp, bd, le, n, rfl, hsp, hbd, hle, hW⟩
  have hF := hA.after sp bd le n (.cells #[.float .f64 (F add), .int .u64 by_, .int .i32 0, .int .i32 reach] 43)
  have hW2 : W = ((set4 (startX F w sub span add 0 reach by_ lat end_ adm rby grp) (w.heap.size + 1) sp bd le by_).alloc (.cells #[.float .f64 (F add), .int .u64 by_, .int .i32 0, .int .i32 reach] 43)).drewN n := hW
  rw [← hW2] at hF
  clear hW hW2 hA hz
  have o1 := hLe.eq hsp (by omega)
  have o2 := hLe.eq hbd (by omega)
  have o3 := hLe.eq hle (by omega)
  have o4 := hLe.eq (hLe.is end_ (by omega)) (by omega)
  have o5 := hLe.eq (hLe.is sub (by omega)) (by omega)
  have o6 := hLe.eq (hLe.is lat (by omega)) (by omega)
  clear hsp hbd hle
  obtain ⟨a0, a1, a2, a3, a5, a6, a7, a8, a10, j0, j1, j2, j3, j4, j5, j6, j7, j10, j11, j12, hB⟩ := hF
  have ho := hLe.o
  have hnot : ∀ (x : Bool) (w : World), (Op.unary .not (.bool x)).run Ybad.prog w = .ok (.bool (!x)) w := fun _ _ => rfl
  go_upto_region 9 with fail
  go_cut [6] from 7 to 75 (fun s6 wc => s6 = .int .i64 (lat - sub - (span + add)) ∧ wc = W)
  case first =>
    go_wp2_with fail
    go_meet
    case rel => exact ⟨rfl, rfl⟩
  case rest =>
  obtain ⟨rfl, rfl⟩ := hcut
  go_wp2_with fail
  dsimp only [List.append]
  refine wp_region_quiet_lit (by kernel_rfl) (lexB_of _ (by kernel_rfl) (by kernel_rfl)) ?_
  repeat (go_big_quiet_step (fail))
  refine wpQuiet_nil ?_
  intro _ hw'
  obtain ⟨nq, hw''⟩ := hw'
  subst hw''
  go_wp2_with fail
  go_ret
  exact ⟨rfl, ⟨hB.os, hB.tape, hB.output, hB.size, hB.block⟩⟩

set_option maxHeartbeats 3000000 in
set_option maxRecDepth 100000 in
theorem law_pos (hLe : Letters F O) (sub span add times reach by_ lat end_ adm rby grp : Int) (w : World) (s1 : -2147483648 ≤ sub) (s2 : sub < 2147483648) (p1 : 0 ≤ span) (p2 : span < 4294967296) (d1 : 0 ≤ add) (d2 : add < 65536) (l1 : -2147483648 ≤ lat) (l2 : lat < 2147483648) (e1 : -2147483648 ≤ end_) (e2 : end_ < 2147483648) (t1 : -2147483648 ≤ times) (t2 : times < 2147483648) (h0 : 0 < times) (tab : Tab w) (hsz : 1 < w.heap.size) :
    Calls Ybad.prog 3 #[.agg #[.int .i32 sub, .int .u32 span, .int .u16 add, .int .i32 times, .int .i32 reach, .int .u64 by_, .int .i32 lat, .int .i32 end_, .int .u64 adm, .int .u64 rby, .int .i32 grp]] w (TruePost w) := by
  have ht0 : (times == 0) = false := by simp; omega
  have m1 : 0 ≤ times * add := Int.mul_nonneg (by omega) d1
  have m2 : times * add ≤ 2147483648 * 65536 := Int.mul_le_mul (by omega) (by omega) d1 (by omega)
  have HT : Hid (span + max times 0 * add = span + times * add) := by
    show span + max times 0 * add = span + times * add
    rw [show max times 0 = times by omega]
  have hf := hLe.f
  go_enter Ybad.func3, Ybad.ntmps3
  go_wp2_with fail
  have hA := startX_ahead F w sub span add times reach by_ lat end_ adm rby grp
  have hz := hA.size
  refine (raise_times (w.heap.size + 1) (F sub) (F lat) (F span) (F add) by_ times reach sub lat span add (span + times * add) (startX F w sub span add times reach by_ lat end_ adm rby grp) (by omega) hA.is (hA.job 4) ⟨_, hA.job 2⟩ (hLe.fit sub) (hLe.fit lat) (hLe.fit span) (hLe.fit add) (hLe.is sub (by omega)) (hLe.is lat (by omega)) (hLe.is span (by omega)) (hLe.is add (by omega)) (by omega) (by omega) p1 d1 d2 ht0 t1 t2 HT.out (by omega) (hA.tab tab hsz) (by omega)).mono ?_
  rintro e W ⟨sp, bd, le, n, rfl, hsp, hbd, hle, hW⟩
  have hF := hA.after sp bd le n (.cells #[.float .f64 (F add), .int .u64 by_, .int .i32 times, .int .i32 reach] 43)
  have hW2 : W = ((set4 (startX F w sub span add times reach by_ lat end_ adm rby grp) (w.heap.size + 1) sp bd le by_).alloc (.cells #[.float .f64 (F add), .int .u64 by_, .int .i32 times, .int .i32 reach] 43)).drewN n := hW
  rw [← hW2] at hF
  clear hW hW2 hA hz
  have o1 := hLe.eq hsp (by omega)
  have o2 := hLe.eq hbd (by omega)
  have o3 := hLe.eq hle (by omega)
  have o4 := hLe.eq (hLe.is end_ (by omega)) (by omega)
  have o5 := hLe.eq (hLe.is sub (by omega)) (by omega)
  have o6 := hLe.eq (hLe.is lat (by omega)) (by omega)
  clear hsp hbd hle
  obtain ⟨a0, a1, a2, a3, a5, a6, a7, a8, a10, j0, j1, j2, j3, j4, j5, j6, j7, j10, j11, j12, hB⟩ := hF
  have ho := hLe.o
  have hnot : ∀ (x : Bool) (w : World), (Op.unary .not (.bool x)).run Ybad.prog w = .ok (.bool (!x)) w := fun _ _ => rfl
  go_upto_region 9 with fail
  go_cut [6] from 7 to 75 (fun s6 wc => s6 = .int .i64 (lat - sub - (span + times * add)) ∧ wc = W)
  case first =>
    go_wp2_with fail
    go_meet
    case rel => exact ⟨rfl, rfl⟩
  case rest =>
  obtain ⟨rfl, rfl⟩ := hcut
  go_wp2_with fail
  dsimp only [List.append]
  refine wp_region_quiet_lit (by kernel_rfl) (lexB_of _ (by kernel_rfl) (by kernel_rfl)) ?_
  repeat (go_big_quiet_step (fail))
  refine wpQuiet_nil ?_
  intro _ hw'
  obtain ⟨nq, hw''⟩ := hw'
  subst hw''
  go_wp2_with fail
  go_ret
  exact ⟨rfl, ⟨hB.os, hB.tape, hB.output, hB.size, hB.block⟩⟩

set_option maxHeartbeats 3000000 in
set_option maxRecDepth 100000 in
theorem law_neg (hLe : Letters F O) (sub span add times reach by_ lat end_ adm rby grp : Int) (w : World) (s1 : -2147483648 ≤ sub) (s2 : sub < 2147483648) (p1 : 0 ≤ span) (p2 : span < 4294967296) (d1 : 0 ≤ add) (d2 : add < 65536) (l1 : -2147483648 ≤ lat) (l2 : lat < 2147483648) (e1 : -2147483648 ≤ end_) (e2 : end_ < 2147483648) (t1 : -2147483648 ≤ times) (t2 : times < 2147483648) (h0 : times < 0) (tab : Tab w) (hsz : 1 < w.heap.size) :
    Calls Ybad.prog 3 #[.agg #[.int .i32 sub, .int .u32 span, .int .u16 add, .int .i32 times, .int .i32 reach, .int .u64 by_, .int .i32 lat, .int .i32 end_, .int .u64 adm, .int .u64 rby, .int .i32 grp]] w (TruePost w) := by
  have ht0 : (times == 0) = false := by simp; omega
  have HT : Hid (span + max times 0 * add = span) := by
    show span + max times 0 * add = span
    rw [show max times 0 = 0 by omega, Int.zero_mul, Int.add_zero]
  have hf := hLe.f
  go_enter Ybad.func3, Ybad.ntmps3
  go_wp2_with fail
  have hA := startX_ahead F w sub span add times reach by_ lat end_ adm rby grp
  have hz := hA.size
  refine (raise_times (w.heap.size + 1) (F sub) (F lat) (F span) (F add) by_ times reach sub lat span add span (startX F w sub span add times reach by_ lat end_ adm rby grp) (by omega) hA.is (hA.job 4) ⟨_, hA.job 2⟩ (hLe.fit sub) (hLe.fit lat) (hLe.fit span) (hLe.fit add) (hLe.is sub (by omega)) (hLe.is lat (by omega)) (hLe.is span (by omega)) (hLe.is add (by omega)) (by omega) (by omega) p1 d1 d2 ht0 t1 t2 HT.out (by omega) (hA.tab tab hsz) (by omega)).mono ?_
  rintro e W ⟨sp, bd, le, n, rfl, hsp, hbd, hle, hW⟩
  have hF := hA.after sp bd le n (.cells #[.float .f64 (F add), .int .u64 by_, .int .i32 times, .int .i32 reach] 43)
  have hW2 : W = ((set4 (startX F w sub span add times reach by_ lat end_ adm rby grp) (w.heap.size + 1) sp bd le by_).alloc (.cells #[.float .f64 (F add), .int .u64 by_, .int .i32 times, .int .i32 reach] 43)).drewN n := hW
  rw [← hW2] at hF
  clear hW hW2 hA hz
  have o1 := hLe.eq hsp (by omega)
  have o2 := hLe.eq hbd (by omega)
  have o3 := hLe.eq hle (by omega)
  have o4 := hLe.eq (hLe.is end_ (by omega)) (by omega)
  have o5 := hLe.eq (hLe.is sub (by omega)) (by omega)
  have o6 := hLe.eq (hLe.is lat (by omega)) (by omega)
  clear hsp hbd hle
  obtain ⟨a0, a1, a2, a3, a5, a6, a7, a8, a10, j0, j1, j2, j3, j4, j5, j6, j7, j10, j11, j12, hB⟩ := hF
  have ho := hLe.o
  have hnot : ∀ (x : Bool) (w : World), (Op.unary .not (.bool x)).run Ybad.prog w = .ok (.bool (!x)) w := fun _ _ => rfl
  go_upto_region 9 with fail
  go_cut [6] from 7 to 75 (fun s6 wc => s6 = .int .i64 (lat - sub - (span)) ∧ wc = W)
  case first =>
    go_wp2_with fail
    go_meet
    case rel => exact ⟨rfl, rfl⟩
  case rest =>
  obtain ⟨rfl, rfl⟩ := hcut
  go_wp2_with fail
  dsimp only [List.append]
  refine wp_region_quiet_lit (by kernel_rfl) (lexB_of _ (by kernel_rfl) (by kernel_rfl)) ?_
  repeat (go_big_quiet_step (fail))
  refine wpQuiet_nil ?_
  intro _ hw'
  obtain ⟨nq, hw''⟩ := hw'
  subst hw''
  go_wp2_with fail
  go_ret
  exact ⟨rfl, ⟨hB.os, hB.tape, hB.output, hB.size, hB.block⟩⟩

theorem letters : Letters (floatOfInt .f64) FloatKind.f64.format.order := ⟨fun _ => rfl, fun _ _ => rfl⟩
theorem exact_law (sub span add times reach by_ lat end_ adm rby grp : Int) (w : World) (s : IntKind.i32.has sub) (p : IntKind.u32.has span) (d : IntKind.u16.has add) (t : IntKind.i32.has times) (l : IntKind.i32.has lat) (e : IntKind.i32.has end_) (tab : Tab w) (hsz : 1 < w.heap.size) :
    Calls Ybad.prog 3 #[.agg #[.int .i32 sub, .int .u32 span, .int .u16 add, .int .i32 times, .int .i32 reach, .int .u64 by_, .int .i32 lat, .int .i32 end_, .int .u64 adm, .int .u64 rby, .int .i32 grp]] w (TruePost w) := by
  have s' : -2147483648 ≤ sub ∧ sub ≤ 2147483647 := s
  have p' : 0 ≤ span ∧ span ≤ 4294967295 := p
  have d' : 0 ≤ add ∧ add ≤ 65535 := d
  have t' : -2147483648 ≤ times ∧ times ≤ 2147483647 := t
  have l' : -2147483648 ≤ lat ∧ lat ≤ 2147483647 := l
  have e' : -2147483648 ≤ end_ ∧ end_ ≤ 2147483647 := e
  rcases Int.lt_trichotomy times 0 with h | h | h
  · exact law_neg letters sub span add times reach by_ lat end_ adm rby grp w (by omega) (by omega) (by omega) (by omega) (by omega) (by omega) (by omega) (by omega) (by omega) (by omega) (by omega) (by omega) h tab hsz
  · subst h
    exact law_zero letters sub span add 0 reach by_ lat end_ adm rby grp w (by omega) (by omega) (by omega) (by omega) (by omega) (by omega) (by omega) (by omega) (by omega) (by omega) (by omega) (by omega) tab hsz
  · exact law_pos letters sub span add times reach by_ lat end_ adm rby grp w (by omega) (by omega) (by omega) (by omega) (by omega) (by omega) (by omega) (by omega) (by omega) (by omega) (by omega) (by omega) h tab hsz
end Go.Proofs.YbulkbuheDoor
