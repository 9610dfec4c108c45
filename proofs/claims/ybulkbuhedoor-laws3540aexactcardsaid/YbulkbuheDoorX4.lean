/-
  The walk of raise at whole numbers.
-/
import Derived.Test.YbulkbuheDoorX3
import Derived.Test.YbulkbuheDoorW3
namespace Go.Proofs.YbulkbuheDoor
open Go.RowKit Fl
attribute [local go_sem] run_store_float setCell_drewN alloc_drewN

theorem Tab.alloc {w : World} (h : Tab w) (hs : 1 < w.heap.size) (o : Obj) : Tab (w.alloc o) := fun j hj => by
  rw [World.cell?_alloc_lt w o ⟨1, j, none⟩ hs]; exact h j hj

theorem Tab.drew {w : World} (h : Tab w) : Tab w.drew := h

/-- What a raise leaves, at whole numbers. -/
def Raised (b : Nat) (s l T : Int) (by_ : Int) (o : Obj) (w : World) (e : Ending) (w' : World) : Prop :=
  ∃ sp bd le n, e = .returned (.tuple #[]) ∧ I sp T ∧ I bd (s + T) ∧ I le (l - s - T) ∧ w' = ((set4 w b sp bd le by_).alloc o).drewN n

theorem counted {sub lat sp bd le : Nat} {s l T : Int} (h0 : Fit sub) (h2 : Fit sp) (hs : I sub s) (hl : I lat l) (hT : I sp T) (ms : s.natAbs < 4294967296) (ml : l.natAbs < 4294967296) (mT : T.natAbs < 1125899906842624)
    (e2 : ab bd = addUp (ab sub) (ab sp)) (e3 : ab le = lee (ab sub) (ab sp) (ab lat)) : I bd (s + T) ∧ I le (l - s - T) := by
  obtain ⟨r, er, hr, _⟩ := addUp_I hs hT (by unfold Small; omega) (by unfold Small; omega) (by unfold Small; omega)
  obtain ⟨q, eq, hq⟩ := lee_I h0 h2 hs hT hl (by unfold Small; omega) (by unfold Small; omega) (by unfold Small; omega) (by unfold Small; omega) (by unfold Small; omega)
  rw [I_num hs, I_num hT, er] at e2
  rw [I_num hs, I_num hT, I_num hl, eq] at e3
  exact ⟨ab_of e2 hr, ab_of e3 hq⟩

theorem raise_zero (b sub lat span add : Nat) (by_ reach s l a d : Int) (w : World) (hb : b < w.heap.size) (hj : Job w b sub lat) (hsp : w.cell? ⟨b, 4, none⟩ = some (.float .f64 span)) (hby : ∃ v, w.cell? ⟨b, 2, none⟩ = some v) (h0 : Fit sub) (h1 : Fit lat) (h2 : Fit span) (h3 : Fit add)
    (hs : I sub s) (hl : I lat l) (ha : I span a) (hd : I add d) (ms : s.natAbs < 4294967296) (ml : l.natAbs < 4294967296) (ma : 0 ≤ a) (ma2 : a < 4294967296) (md : 0 ≤ d) (md2 : d < 65536) :
    Calls Ybad.prog 5 #[.pointer (some ⟨b, 0, none⟩), .agg #[.float .f64 add, .int .u64 by_, .int .i32 0, .int .i32 reach]] w (Raised b s l (a + d) by_ (.cells #[.float .f64 add, .int .u64 by_, .int .i32 0, .int .i32 reach] 43) w) := by
  refine (raise_walk0 b sub lat span add by_ reach w hb hj hsp hby h0 h1 h2 h3).mono ?_
  rintro e w' ⟨sp, bd, le, n, rfl, e1, e2, e3, rfl⟩
  obtain ⟨r, er, hr, hrf⟩ := addUp_I ha hd (by unfold Small; omega) (by unfold Small; omega) (by unfold Small; omega)
  rw [I_num ha, I_num hd, er] at e1
  have hsp := ab_of e1 hr
  have fsp : Fit sp := by
    obtain ⟨e, _⟩ := ab_some e1
    rw [← e]; exact hrf
  obtain ⟨k1, k2⟩ := counted h0 fsp hs hl hsp ms ml (by omega) e2 e3
  exact ⟨sp, bd, le, n, rfl, hsp, k1, k2, rfl⟩

set_option maxHeartbeats 1600000 in
theorem raise_times (b sub lat span add : Nat) (by_ times reach s l a d T : Int) (w : World) (hb : b < w.heap.size) (hj : Job w b sub lat) (hsp : w.cell? ⟨b, 4, none⟩ = some (.float .f64 span)) (hby : ∃ v, w.cell? ⟨b, 2, none⟩ = some v) (h0 : Fit sub) (h1 : Fit lat) (h2 : Fit span) (h3 : Fit add)
    (hs : I sub s) (hl : I lat l) (ha : I span a) (hd : I add d) (ms : s.natAbs < 4294967296) (ml : l.natAbs < 4294967296) (ma : 0 ≤ a) (md : 0 ≤ d) (md2 : d < 65536)
    (ht0 : (times == 0) = false) (ht1 : -2147483648 ≤ times) (ht2 : times < 2147483648) (hT : a + max times 0 * d = T) (hT2 : T < 1125899906842624) (tab : Tab w) (hsz : 1 < w.heap.size) :
    Calls Ybad.prog 5 #[.pointer (some ⟨b, 0, none⟩), .agg #[.float .f64 add, .int .u64 by_, .int .i32 times, .int .i32 reach]] w (Raised b s l T by_ (.cells #[.float .f64 add, .int .u64 by_, .int .i32 times, .int .i32 reach] 43) w) := by
  obtain ⟨v2, c2⟩ := hby
  have fz := hj.soft
  have mT : 0 ≤ T := by
    have : 0 ≤ max times 0 * d := Int.mul_nonneg (by omega) md
    omega
  have hwrap : IntKind.i64.wrap times = times := by rw [IntKind.wrap_i64]; omega
  have HT : Hid (a + max times 0 * d = T) := hT
  clear hT
  go_enter Ybad.func5, Ybad.ntmps5
  go_wp2_with fail
  go_region_with (first
    | (go_at_call 10; refine (times_walk span add times a d T _ h2 h3 ha hd ma md ht1 ht2 HT.out hT2 md2 (by exact (tab.alloc hsz _).drew)).mono ?_; rintro e w' ⟨sp, n, rfl, hsp', esp, rfl⟩)
    | (go_at_call 8; refine (count_walk _ sub lat _ _ (by exact (hj.alloc hb _).drewN _) (by assumption) (by assumption) (by assumption)).mono ?_; rintro e w' ⟨bd, le, n2, rfl, hbd, hle, ebd, ele, rfl⟩))
  all_goals
    have hc := counted h0 hsp' hs hl esp ms ml (by omega) ebd ele
    have HC : Hid (I bd (s + T) ∧ I le (l - s - T)) := hc
    clear hc ebd ele
    go_wp2_with fail
    go_end0
    exact ⟨sp, bd, le, _, rfl, esp, HC.out.1, HC.out.2, rfl⟩
end Go.Proofs.YbulkbuheDoor
