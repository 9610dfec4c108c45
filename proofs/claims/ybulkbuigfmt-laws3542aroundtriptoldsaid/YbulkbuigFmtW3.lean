/-
  The walk of parseID.
-/
import Derived.Test.YbulkbuigFmtFm
import Derived.Test.YbulkbuigFmtShelf
import Derived.Test.YbulkbuigFmtPlain
import Derived.WalkKit
import Derived.WalkSpells
import Derived.WalkLawsBesides
import Derived.Lib.SmallJoins
import Derived.Deep.QuietTactic
import Derived.BigQuiet
namespace Go.Proofs.YbulkbuigFmt
open Go.RowKit Go.Extern.Stop Go.Stop Go.Extern Plain
attribute [local go_sem] call13 call17 guard_ok fmt0 fmt1r op3_100 op9_115 op9_113w ptr60 elem60

/-- The table of powers of ten lies as its initialiser lays it. -/
def Tab (w : World) : Prop := Lib.TabIs Ybaf.prog w (Rows.lawS3542AModelRow.named.getD 2 "") .u64 Lib.pow10Tab
theorem Tab.stays {w w' : World} (h : Tab w) (hb : Below w.heap.size w w') : Tab w' := Joins.tab_stays (g := 2) (by kernel_rfl) h hb (Nat.le_refl _)

/-- The two errors that the library's variables hold. -/
def ErrIs (v : Value) : Prop := ∃ te pe, v = .iface te pe
structure Vars (w : World) : Prop where
  tab : Tab w
  syn : ∃ ev, w.cell? ⟨0, 0, none⟩ = some ev ∧ ErrIs ev
  rng : ∃ ev, w.cell? ⟨1, 0, none⟩ = some ev ∧ ErrIs ev
theorem Vars.stays {w w' : World} (h : Vars w) (hb : Below w.heap.size w w') : Vars w' := by
  obtain ⟨ht, ⟨e1, c1, i1⟩, e2, c2, i2⟩ := h
  exact ⟨ht.stays hb, ⟨e1, by rw [hb.cell (Lib.lt_of_cell c1)]; exact c1, i1⟩, e2, by rw [hb.cell (Lib.lt_of_cell c2)]; exact c2, i2⟩

/-- strconv.ParseInt(s, 10, 64): a number and no error, or a number and an error. -/
theorem parse_ok (s : ByteArray) (hs : s.size ≤ 281474976710656) (v : Int) (h : Lib.parseIntB 64 s.data.toList = .ok v) (w : World) :
    Calls Ybaf.prog 10 #[.string s, .int .i64 10, .int .i64 64] w fun e w' => e = .returned (.tuple #[.int .i64 v, .nilIface]) ∧ Below w.heap.size w w' := by
  refine (Any.strconv_ParseInt_10_at64_ok Ybaf.laysC174 s (by omega) v h w).mono ?_
  rintro e w' ⟨he, hw⟩
  refine ⟨he, ?_⟩
  rcases hw with rfl | ⟨t, rfl⟩
  · exact Below.refl _ _
  · exact Lib.bytesWorld_below _ _ _
theorem parse_bad (s : ByteArray) (hs : s.size ≤ 281474976710656) (h : ∀ v, Lib.parseIntB 64 s.data.toList ≠ .ok v) (w : World) (hw : Vars w) :
    Calls Ybaf.prog 10 #[.string s, .int .i64 10, .int .i64 64] w fun e w' => ∃ n N, e = .returned (.tuple #[.int .i64 n, .iface 52 (.pointer (some ⟨N, 0, none⟩))]) ∧ Below w.heap.size w w' := by
  obtain ⟨_, ⟨e1, c1, i1⟩, e2, c2, i2⟩ := hw
  rcases hp : Lib.parseIntB 64 s.data.toList with v | _ | _
  · exact absurd hp (h v)
  · refine (Any.strconv_ParseInt_10_at64_syntax Ybaf.laysC174 s hs hp e1 w c1 (Or.inr i1)).mono ?_
    rintro e w' ⟨N, he, _, _, hb⟩
    exact ⟨_, N, he, hb⟩
  · refine (Any.strconv_ParseInt_10_at64_range Ybaf.laysC174 s hs hp e2 w c2 (Or.inr i2)).mono ?_
    rintro e w' ⟨N, he, _, _, hb⟩
    exact ⟨_, N, he, hb⟩
theorem format_any (n : Int) (h0 : -9223372036854775808 ≤ n) (h1 : n ≤ 9223372036854775807) (w : World) (hw : Tab w) :
    Calls Ybaf.prog 11 #[.int .i64 n, .int .i64 10] w fun e w' => e = .returned (.string ⟨(Lib.itoa n).toArray⟩) ∧ Below w.heap.size w w' := by
  refine (Any.strconv_FormatInt_10 Ybaf.laysM173 n h0 h1 w hw).mono ?_
  rintro e w' ⟨he, k, os, rfl⟩
  refine ⟨he, rfl, rfl, rfl, ?_, fun j hj => ?_⟩
  · show w.heap.size ≤ (w.heap ++ os).size
    rw [Array.size_append]; omega
  · show (w.heap ++ os)[j]? = w.heap[j]?
    exact Array.getElem?_append_left hj

set_option maxHeartbeats 400000 in
theorem errorf_walk (F : Interp) (s : ByteArray) (b : Nat) (w : World) (hF : F.answers w.tape) (hc : w.cell? ⟨b, 0, none⟩ = some (.iface 9 (.string s))) :
    Calls Ybaf.prog 12 #[.string ⟨#[37, 113, 32, 105, 115, 32, 110, 111, 116, 32, 97, 110, 32, 105, 100, 58, 32, 105, 100, 115, 32, 97, 114, 101, 32, 105, 110, 116, 54, 52, 115, 32, 105, 110, 32, 100, 101, 99, 105, 109, 97, 108, 44, 32, 119, 105, 116, 104, 32, 110, 111, 32, 43, 32, 115, 105, 103, 110, 32, 111, 114, 32, 108, 101, 97, 100, 105, 110, 103, 32, 48]⟩, .slice (some ⟨b, 0, none⟩) 1 1] w fun e w' => (∃ N, e = .returned (.iface 60 (.pointer (some ⟨N, 0, none⟩)))) ∧ Below w.heap.size w w' := by
  have hF' := answers_open hF
  go_enter Ybaf.func12, Ybaf.ntmps12
  go_wp2
  go_ret
  exact ⟨⟨_, rfl⟩, ((Below.refl _ w).alloc (Nat.le_refl _) _).drew⟩

set_option maxHeartbeats 400000 in
theorem parseID_bad (F : Interp) (s : ByteArray) (w : World) (hs : s.size ≤ 1048576) (hF : F.answers w.tape) (hw : Vars w) (h : ∀ v, Lib.parseIntB 64 s.data.toList ≠ .ok v) :
    Calls Ybaf.prog 6 #[.string s] w fun e w' => (∃ N, e = .returned (.tuple #[.int .i64 0, .iface 60 (.pointer (some ⟨N, 0, none⟩))])) ∧ Below w.heap.size w w' := by
  go_enter Ybaf.func6, Ybaf.ntmps6
  go_wp2_with fail
  refine (parse_bad s (by omega) h w hw).mono ?_
  rintro e w1 ⟨n, N, rfl, hb⟩
  have hF1 : F.answers w1.tape := by rw [hb.tape]; exact hF
  go_wp2_with fail
  refine (errorf_walk F s _ _ (by exact hF1) (by exact World.cell?_alloc_new _ _ _ _)).mono ?_
  rintro e w2 ⟨⟨M, rfl⟩, hb2⟩
  go_wp2_with fail
  go_ret2
  exact ⟨⟨M, rfl⟩, (hb.alloc hb.size _).trans (hb2.mono (by simp; have := hb.size; omega))⟩

set_option maxHeartbeats 400000 in
theorem parseID_good (s : ByteArray) (v : Int) (w : World) (hs : s.size ≤ 1048576) (hw : Vars w) (h : Lib.parseIntB 64 s.data.toList = .ok v) (hi : Lib.itoa v = s.data.toList) :
    Calls Ybaf.prog 6 #[.string s] w fun e w' => e = .returned (.tuple #[.int .i64 v, .nilIface]) ∧ Below w.heap.size w w' := by
  obtain ⟨r0, r1⟩ := parse_range h
  have HI : Hid (Lib.itoa v = s.data.toList) := hi
  have HP : Hid (Lib.parseIntB 64 s.data.toList = .ok v) := h
  clear hi h
  go_enter Ybaf.func6, Ybaf.ntmps6
  go_wp2_with fail
  refine (parse_ok s (by omega) v HP.out w).mono ?_
  rintro e w1 ⟨rfl, hb⟩
  go_wp2_with fail
  refine (format_any v r0 r1 w1 (hw.tab.stays hb)).mono ?_
  rintro e w2 ⟨rfl, hb2⟩
  rw [show (⟨(Lib.itoa v).toArray⟩ : ByteArray) = s from by rw [HI.out]]
  have hb3 := hb.trans (hb2.mono hb.size)
  go_wp2_with fail
  go_ret2
  exact ⟨rfl, hb3⟩

set_option maxHeartbeats 400000 in
theorem parseID_other (F : Interp) (s : ByteArray) (v : Int) (w : World) (hs : s.size ≤ 1048576) (hF : F.answers w.tape) (hw : Vars w) (h : Lib.parseIntB 64 s.data.toList = .ok v) (hi : Lib.itoa v ≠ s.data.toList) :
    Calls Ybaf.prog 6 #[.string s] w fun e w' => (∃ N, e = .returned (.tuple #[.int .i64 0, .iface 60 (.pointer (some ⟨N, 0, none⟩))])) ∧ Below w.heap.size w w' := by
  obtain ⟨r0, r1⟩ := parse_range h
  have HI : Hid (Lib.itoa v ≠ s.data.toList) := hi
  have HP : Hid (Lib.parseIntB 64 s.data.toList = .ok v) := h
  clear hi h
  go_enter Ybaf.func6, Ybaf.ntmps6
  go_wp2_with fail
  refine (parse_ok s (by omega) v HP.out w).mono ?_
  rintro e w1 ⟨rfl, hb⟩
  go_wp2_with fail
  refine (format_any v r0 r1 w1 (hw.tab.stays hb)).mono ?_
  rintro e w2 ⟨rfl, hb2⟩
  have hb3 := hb.trans (hb2.mono hb.size)
  have hF2 : F.answers w2.tape := by rw [hb3.tape]; exact hF
  obtain ⟨t, ht⟩ : ∃ t : ByteArray, t = ⟨(Lib.itoa v).toArray⟩ := ⟨_, rfl⟩
  rw [← ht]
  have hne : (t.toList == s.toList) = false := by
    rw [beq_eq_false_iff_ne, ByteArray.toList_eq, ByteArray.toList_eq, ht]
    simpa using HI.out
  clear ht
  go_wp2_with fail
  refine (errorf_walk F s _ _ (by exact hF2) (by exact World.cell?_alloc_new _ _ _ _)).mono ?_
  rintro e w3 ⟨⟨M, rfl⟩, hb4⟩
  go_wp2_with fail
  go_ret2
  exact ⟨⟨M, rfl⟩, (hb3.alloc hb3.size _).trans (hb4.mono (by simp; have := hb3.size; omega))⟩
end Go.Proofs.YbulkbuigFmt
