/-
  The walk of the law LawS3542ARoundTrip.
-/
import Derived.Test.YbulkbuigFmtW4
import Derived.Test.YbulkbuigFmtW5
namespace Go.Proofs.YbulkbuigFmt
open Go.RowKit Go.Extern.Stop Go.Stop Go.Extern Plain

theorem itoa_length (n : Int) (h0 : -9223372036854775808 ≤ n) (h1 : n ≤ 9223372036854775807) : (Lib.itoa n).length ≤ 20 := by
  unfold Lib.itoa
  split
  · have := dec_bound n.natAbs (by omega)
    simp; omega
  · have := dec_bound n.toNat (by omega)
    omega

theorem canon_plus (r : List UInt8) : canon (43 :: r) = none := by
  cases h : canon (43 :: r) with
  | none => rfl
  | some v => obtain ⟨_, _, e⟩ := canon_inv h; exact absurd e.symm (itoa_ne_plus v r)
theorem canon_nought (n : Int) : canon (48 :: Lib.itoa n) = none := by
  cases h : canon (48 :: Lib.itoa n) with
  | none => rfl
  | some v => obtain ⟨_, _, e⟩ := canon_inv h; exact absurd e.symm (itoa_ne_nought v n)

set_option maxHeartbeats 400000 in
theorem trip_walk (F : Interp) (n : Int) (w : World) (h0 : -9223372036854775808 ≤ n) (h1 : n ≤ 9223372036854775807) (hF : F.answers w.tape) (hw : Vars w) :
    Calls Ybaf.prog 4 #[.int .i64 n] w fun e w' => e = .returned (.bool true) ∧ Below w.heap.size w w' := by
  go_enter Ybaf.func4, Ybaf.ntmps4
  go_wp2_with fail
  refine (itoa_walk n w h0 h1).mono ?_
  rintro e w1 ⟨rfl, hb1⟩
  obtain ⟨s, hs⟩ : ∃ s : ByteArray, s = ⟨(Lib.itoa n).toArray⟩ := ⟨_, rfl⟩
  rw [← hs]
  have HS : Hid (s.data.toList = Lib.itoa n) := by rw [hs]; exact List.toList_toArray
  have hlen : s.size ≤ 20 := by rw [← len_size, HS.out]; exact itoa_length n h0 h1
  clear hs
  go_wp2_with fail
  refine (parseID_some s n w1 (by omega) (hw.stays hb1) (by rw [HS.out]; exact canon_itoa n h0 h1)).mono ?_
  rintro e w2 ⟨rfl, hb2⟩
  have hc2 := hb1.trans (hb2.mono hb1.size)
  have hF2 : F.answers w2.tape := by rw [hc2.tape]; exact hF
  go_wp2_with fail
  refine (parseID_none F _ w2 ?_ hF2 (hw.stays hc2) ?_).mono ?_
  · rw [ByteArray.size_append]; show 1 + s.size ≤ _; omega
  · rw [ByteArray.data_append, Array.toList_append, HS.out]; exact canon_plus _
  rintro e w3 ⟨⟨N3, rfl⟩, hb3⟩
  have hc3 := hc2.trans (hb3.mono hc2.size)
  have hF3 : F.answers w3.tape := by rw [hc3.tape]; exact hF
  go_wp2_with fail
  refine (parseID_none F _ w3 ?_ hF3 (hw.stays hc3) ?_).mono ?_
  · rw [ByteArray.size_append]; show 1 + s.size ≤ _; omega
  · rw [ByteArray.data_append, Array.toList_append, HS.out]; exact canon_nought _
  rintro e w4 ⟨⟨N4, rfl⟩, hb4⟩
  have hc4 := hc3.trans (hb4.mono hc3.size)
  go_wp2_with fail
  go_ret
  exact ⟨rfl, hc4⟩
end Go.Proofs.YbulkbuigFmt
