/-
  The walk of the law LawS3542AModel.
-/
import Derived.Test.YbulkbuigFmtW2
import Derived.Test.YbulkbuigFmtW3
namespace Go.Proofs.YbulkbuigFmt
open Go.RowKit Go.Extern.Stop Go.Stop Go.Extern Plain

theorem parseID_some (s : ByteArray) (v : Int) (w : World) (hs : s.size ≤ 1048576) (hw : Vars w) (h : canon s.data.toList = some v) :
    Calls Ybaf.prog 6 #[.string s] w fun e w' => e = .returned (.tuple #[.int .i64 v, .nilIface]) ∧ Below w.heap.size w w' := by
  obtain ⟨a, b⟩ := (good_iff _ _).2 h
  exact parseID_good s v w hs hw a b
theorem parseID_none (F : Interp) (s : ByteArray) (w : World) (hs : s.size ≤ 1048576) (hF : F.answers w.tape) (hw : Vars w) (h : canon s.data.toList = none) :
    Calls Ybaf.prog 6 #[.string s] w fun e w' => (∃ N, e = .returned (.tuple #[.int .i64 0, .iface 60 (.pointer (some ⟨N, 0, none⟩))])) ∧ Below w.heap.size w w' := by
  by_cases hp : ∃ v, Lib.parseIntB 64 s.data.toList = .ok v
  · obtain ⟨v, hp⟩ := hp
    refine parseID_other F s v w hs hF hw hp fun hi => ?_
    rw [(good_iff _ _).1 ⟨hp, hi⟩] at h
    cases h
  · exact parseID_bad F s w hs hF hw fun v hv => hp ⟨v, hv⟩

set_option maxHeartbeats 400000 in
theorem law_long (s : ByteArray) (w : World) (h : 1024 < s.size) (hm : s.size ≤ maxLen) :
    Calls Ybaf.prog 3 #[.string s] w fun e w' => e = .returned (.bool true) ∧ w' = w := by
  unfold maxLen at hm
  have h' : 1024 < (s.size : Int) := by omega
  go_enter Ybaf.func3, Ybaf.ntmps3
  go_wp2_with fail
  go_ret
  exact ⟨rfl, rfl⟩

set_option maxHeartbeats 400000 in
theorem law_some (s : ByteArray) (v : Int) (w : World) (hs : s.size ≤ 1024) (hw : Vars w) (h : canon s.data.toList = some v) :
    Calls Ybaf.prog 3 #[.string s] w fun e w' => e = .returned (.bool true) ∧ Below w.heap.size w w' := by
  have h' : ¬ 1024 < (s.size : Int) := by omega
  have HC : Hid (canon s.data.toList = some v) := h
  clear h
  go_enter Ybaf.func3, Ybaf.ntmps3
  go_wp2_with fail
  refine (parseID_some s v w (by omega) hw HC.out).mono ?_
  rintro e w1 ⟨rfl, hb⟩
  go_wp2_with fail
  refine (model_walk s w1 hs).mono ?_
  rintro e w2 ⟨rfl, rfl⟩
  rw [← (good_some HC.out).1, ← (good_some HC.out).2]
  go_wp2_with fail
  go_ret
  exact ⟨rfl, hb⟩

set_option maxHeartbeats 400000 in
theorem law_none (F : Interp) (s : ByteArray) (w : World) (hs : s.size ≤ 1024) (hF : F.answers w.tape) (hw : Vars w) (h : canon s.data.toList = none) :
    Calls Ybaf.prog 3 #[.string s] w fun e w' => e = .returned (.bool true) ∧ Below w.heap.size w w' := by
  have h' : ¬ 1024 < (s.size : Int) := by omega
  have HC : Hid (canon s.data.toList = none) := h
  clear h
  go_enter Ybaf.func3, Ybaf.ntmps3
  go_wp2_with fail
  refine (parseID_none F s w (by omega) hF hw HC.out).mono ?_
  rintro e w1 ⟨⟨N, rfl⟩, hb⟩
  go_wp2_with fail
  refine (model_walk s w1 hs).mono ?_
  rintro e w2 ⟨rfl, rfl⟩
  rw [← (bad_none HC.out).1, ← (bad_none HC.out).2]
  go_wp2_with fail
  go_ret
  exact ⟨rfl, hb⟩
end Go.Proofs.YbulkbuigFmt
