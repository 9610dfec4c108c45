/-
  The walk of the hand-written itoa.
-/
import Derived.Test.YbulkbuigFmtRows
import Derived.Test.YbulkbuigFmtPlain
import Derived.WalkKit
import Derived.WalkSpells
import Derived.WalkLawsBesides
import Derived.Lib.Strings
import Derived.Lib.SmallJoins
namespace Go.Proofs.YbulkbuigFmt
open Go.RowKit Plain

/-- The digits of x, none of nought. -/
def decs (x : Nat) : List UInt8 := if x = 0 then [] else Lib.decDigits x
theorem decs_step (x : Nat) (h : 0 < x) : decs x = decs (x / 10) ++ [UInt8.ofNat (48 + x % 10)] := by
  unfold decs
  rw [if_neg (by omega), Lib.decDigits]
  by_cases h10 : x < 10
  · rw [dif_pos h10, if_pos (by omega), Nat.mod_eq_of_lt h10]; rfl
  · rw [dif_neg h10, if_neg (by omega)]

/-- The buffer: its block, what stands in it from j on. -/
structure Buf (w wr : World) (j : Nat) (D : List UInt8) : Prop where
  below : Below w.heap.size w wr
  blk : ∃ C : Array Value, wr.heap[w.heap.size]? = some (.cells C 39 (0, 0)) ∧ C.size = 24 ∧ C.toList.drop j = D.map fun c => Value.int .u8 (c.toNat : Int)
  len : j + D.length = 24

theorem Buf.start (w : World) (C : Array Value) (hC : C.size = 24) : Buf w (w.alloc (.cells C 39)) 24 [] := by
  refine ⟨(Below.refl _ w).alloc (Nat.le_refl _) _, ⟨C, ?_, hC, ?_⟩, rfl⟩
  · show (w.heap.push _)[w.heap.size]? = _
    simp
  · simp [List.drop_eq_nil_iff, hC]
theorem Buf.cell {w wr : World} {j : Nat} {D : List UInt8} (h : Buf w wr j D) (i : Nat) (hi : i < 24) : ∃ v, wr.cell? ⟨w.heap.size, i, none⟩ = some v := by
  obtain ⟨C, hC, hs, _⟩ := h.blk
  rw [Joins.cell_of_block hC]
  exact ⟨C[i], by simp [hs, hi]⟩
theorem Buf.soft {w wr : World} {j : Nat} {D : List UInt8} (h : Buf w wr j D) (i : Nat) : wr.frozen? ⟨w.heap.size, i, none⟩ = false := by
  obtain ⟨C, hC, _, _⟩ := h.blk
  exact Joins.unfrozen_of_block hC i
theorem Buf.put {w wr : World} {j : Nat} {D : List UInt8} (h : Buf w wr (j + 1) D) (c : UInt8) : Buf w (wr.setCell ⟨w.heap.size, j, none⟩ (.int .u8 (c.toNat : Int))) j (c :: D) := by
  obtain ⟨C, hC, hs, hd⟩ := h.blk
  refine ⟨h.below.setCell (Nat.le_refl _) _, ⟨_, Joins.block_setCell hC _, by simpa using hs, ?_⟩, ?_⟩
  · have hl := h.len
    have hj : j < C.toList.length := by simp [hs]; omega
    rw [Array.toList_setIfInBounds, List.drop_eq_getElem_cons (by simp [hs]; omega), List.getElem_set_self, List.map_cons, List.drop_set_of_lt (by omega), hd]
  · have := h.len
    simp; omega

theorem slice_law (b l : Nat) (hl : l < 24) (w : World) : (Instr.sliceAt 39 (.pointer (some ⟨b, 0, none⟩)) (some (.int .i64 (l : Int))) none none).run Ybaf.prog w = .ok (.slice (some ⟨b, l, none⟩) (24 - l) (24 - l)) w := by
  have ht : Ybaf.prog.underlying 39 = some (.array (Ybaf.prog.arrayLen 39) (Ybaf.prog.elem 39)) := by kernel_rfl
  have h24 : Ybaf.prog.arrayLen 39 = 24 := by kernel_rfl
  have he : Ybaf.prog.elem 39 = 5 := by kernel_rfl
  have hz : (sizeOf 5).run Ybaf.prog w = .ok 1 w := by kernel_rfl
  rw [run_sliceAt_array_l w 39 ⟨b, 0, none⟩ ht .i64 l (by omega) (by rw [h24]; omega), he, hz, h24]
  simp only [Result.andThen, slicedAt]
  rw [if_neg (by omega)]
  simp [Addr.add]
  omega

theorem u8_back (c : UInt8) : UInt8.ofNat ((c.toNat : Int)).toNat = c := by
  rw [Int.toNat_natCast]; exact UInt8.ofNat_toNat

theorem Buf.text {w wr : World} {j : Nat} {D : List UInt8} (h : Buf w wr j D) : (convert 40 9 (.slice (some ⟨w.heap.size, j, none⟩) (24 - j) (24 - j))).run Ybaf.prog wr = .ok (.string ⟨D.toArray⟩) wr := by
  obtain ⟨C, hC, hs, hd⟩ := h.blk
  have hl := h.len
  have := run_convert_bytes_arg (P := Ybaf.prog) wr 40 5 Ybaf.underlying40 Ybaf.underlying5 w.heap.size j (24 - j) (24 - j) (D.map fun c => (c.toNat : Int)) (by simp; omega) (fun i hi => by
    rw [Joins.cell_of_block hC]
    have e : (C.toList.drop j)[i]? = (D.map fun c => Value.int .u8 (c.toNat : Int))[i]? := by rw [hd]
    rw [List.getElem?_drop] at e
    rw [← Array.getElem?_toList, e]
    have hiD : i < D.length := by omega
    simp [hiD]) 9 Ybaf.underlying9
  rw [this]
  congr 2
  unfold strOfNums
  rw [List.map_map]
  congr 2
  refine List.map_id'' (fun c => u8_back c) D

theorem ret_str {a b : List UInt8} (h : a = b) : Ending.returned (.string ⟨a.toArray⟩) = .returned (.string ⟨b.toArray⟩) := by rw [h]

set_option maxHeartbeats 800000 in
theorem itoa_pos (n : Int) (w : World) (h0 : 0 < n) (h1 : n ≤ 9223372036854775807) :
    Calls Ybaf.prog 8 #[.int .i64 n] w fun e w' => e = .returned (.string ⟨(Lib.itoa n).toArray⟩) ∧ Below w.heap.size w w' := by
  have z1 : ¬ n < 0 := by omega
  have HI : Hid (Lib.itoa n = Lib.decDigits n.toNat) := by unfold Lib.itoa; exact if_neg z1
  have HL : Hid ((Lib.decDigits n.toNat).length ≤ 19) := dec_bound _ (by omega)
  obtain ⟨u, hu⟩ := Int.eq_ofNat_of_zero_le (show 0 ≤ n by omega)
  subst hu
  rw [Int.toNat_natCast] at HI HL
  have hu0 : 0 < u := by omega
  go_enter Ybaf.func8, Ybaf.ntmps8
  go_wp2
  go_loopw [3, 6] (fun x i wr => ∃ (y j : Nat) (D : List UInt8), x = .int .u64 y ∧ i = .int .i64 j ∧ y ≤ u ∧ decs y ++ D = Lib.decDigits u ∧ Buf w wr j D) (fun x _ _ => (intOf x).toNat)
  case atStart => exact ⟨u, 24, [], rfl, rfl, Nat.le_refl _, by rw [List.append_nil]; unfold decs; rw [if_neg (by omega)], Buf.start _ _ rfl⟩
  case round =>
    obtain ⟨y, j, D, rfl, rfl, hy, hD, hB⟩ := hrel
    have hlen : D.length ≤ 19 := by have := congrArg List.length hD; rw [List.length_append] at this; have := HL.out; omega
    have hjl := hB.len
    by_cases hpos : 0 < y
    · obtain ⟨m, rfl⟩ : ∃ m, j = m + 1 := ⟨j - 1, by omega⟩
      have hpos' : 0 < (y : Int) := by omega
      obtain ⟨v, hv⟩ := hB.cell m (by omega)
      have hf := hB.soft m
      have HD : Hid (decs y ++ D = Lib.decDigits u) := hD
      have hm : m ≤ 23 := by omega
      clear hD hjl
      go_wp2
      go_roundw
      case rel =>
        refine ⟨y / 10, m, UInt8.ofNat (48 + y % 10) :: D, by go_num, rfl, by omega, ?_, ?_⟩
        · rw [← HD.out, decs_step y hpos]; simp
        · have := hB.put (UInt8.ofNat (48 + y % 10))
          rw [digit_toNat _ (by omega)] at this
          have e : (((48 + y % 10 : Nat) : Int)) = 48 + (y : Int) % 10 := by omega
          rw [e] at this
          exact this
      case measure => simp [intOf]; omega
    · have hpos' : ¬ 0 < (y : Int) := by omega
      have hy0 : y = 0 := by omega
      subst hy0
      have hD' : D = Lib.decDigits u := by simpa [decs] using hD
      have hne := dec_ne u
      have hj : j < 24 := by
        have : D.length ≠ 0 := by rw [hD']; intro e; exact hne (List.length_eq_zero_iff.1 e)
        omega
      have hsl := slice_law w.heap.size j hj
      have htx := hB.text
      have HD : Hid (D = Lib.decDigits u) := hD'
      clear hD' hD hjl hlen
      have hbl := hB.below
      clear hB
      go_wp2
      go_ret
      exact ⟨ret_str (HD.out.trans HI.out.symm), hbl⟩
set_option maxHeartbeats 800000 in
theorem itoa_neg (n : Int) (w : World) (h0 : n < 0) (h1 : -9223372036854775808 ≤ n) :
    Calls Ybaf.prog 8 #[.int .i64 n] w fun e w' => e = .returned (.string ⟨(Lib.itoa n).toArray⟩) ∧ Below w.heap.size w w' := by
  have HI : Hid (Lib.itoa n = 45 :: Lib.decDigits n.natAbs) := by unfold Lib.itoa; exact if_pos h0
  have HL : Hid ((Lib.decDigits n.natAbs).length ≤ 19) := dec_bound _ (by omega)
  obtain ⟨u, hu⟩ : ∃ u, u = n.natAbs := ⟨_, rfl⟩
  rw [← hu] at HI HL
  have hu0 : 0 < u := by omega
  have hu9 : u ≤ 9223372036854775808 := by omega
  have hwr : IntKind.u64.wrap (-IntKind.u64.wrap n) = (u : Int) := by
    rw [IntKind.wrap_u64, IntKind.wrap_u64]; omega
  clear hu
  go_enter Ybaf.func8, Ybaf.ntmps8
  go_wp2
  go_loopw [3, 6] (fun x i wr => ∃ (y j : Nat) (D : List UInt8), x = .int .u64 y ∧ i = .int .i64 j ∧ y ≤ u ∧ decs y ++ D = Lib.decDigits u ∧ Buf w wr j D) (fun x _ _ => (intOf x).toNat)
  case atStart => exact ⟨u, 24, [], rfl, rfl, Nat.le_refl _, by rw [List.append_nil]; unfold decs; rw [if_neg (by omega)], Buf.start _ _ rfl⟩
  case round =>
    obtain ⟨y, j, D, rfl, rfl, hy, hD, hB⟩ := hrel
    have hlen : D.length ≤ 19 := by have := congrArg List.length hD; rw [List.length_append] at this; have := HL.out; omega
    have hjl := hB.len
    by_cases hpos : 0 < y
    · obtain ⟨m, rfl⟩ : ∃ m, j = m + 1 := ⟨j - 1, by omega⟩
      have hpos' : 0 < (y : Int) := by omega
      obtain ⟨v, hv⟩ := hB.cell m (by omega)
      have hf := hB.soft m
      have HD : Hid (decs y ++ D = Lib.decDigits u) := hD
      have hm : m ≤ 23 := by omega
      clear hD hjl
      go_wp2
      go_roundw
      case rel =>
        refine ⟨y / 10, m, UInt8.ofNat (48 + y % 10) :: D, by go_num, rfl, by omega, ?_, ?_⟩
        · rw [← HD.out, decs_step y hpos]; simp
        · have := hB.put (UInt8.ofNat (48 + y % 10))
          rw [digit_toNat _ (by omega)] at this
          have e : (((48 + y % 10 : Nat) : Int)) = 48 + (y : Int) % 10 := by omega
          rw [e] at this
          exact this
      case measure => simp [intOf]; omega
    · have hpos' : ¬ 0 < (y : Int) := by omega
      have hy0 : y = 0 := by omega
      subst hy0
      have hD' : D = Lib.decDigits u := by simpa [decs] using hD
      have hne := dec_ne u
      have hj : j < 24 := by
        have : D.length ≠ 0 := by rw [hD']; intro e; exact hne (List.length_eq_zero_iff.1 e)
        omega
      obtain ⟨m, rfl⟩ : ∃ m, j = m + 1 := ⟨j - 1, by omega⟩
      obtain ⟨v, hv⟩ := hB.cell m (by omega)
      have hf := hB.soft m
      have hB2 := hB.put 45
      have hsl := slice_law w.heap.size m (by omega)
      have htx := hB2.text
      have hbl := hB2.below
      have HD : Hid (D = Lib.decDigits u) := hD'
      have hm : m ≤ 22 := by omega
      clear hD' hD hjl hlen hB hB2
      rw [show ((45 : UInt8).toNat : Int) = 45 from rfl] at htx hbl
      go_wp2
      go_ret
      exact ⟨ret_str (by rw [HI.out, HD.out]), hbl⟩

theorem Buf.one (w : World) (C : Array Value) (hC : C.size = 24) (hd : C.toList.drop 23 = [.int .u8 48]) : Buf w (w.alloc (.cells C 39)) 23 [48] := by
  refine ⟨(Below.refl _ w).alloc (Nat.le_refl _) _, ⟨C, ?_, hC, hd⟩, rfl⟩
  show (w.heap.push _)[w.heap.size]? = _
  simp

set_option maxHeartbeats 400000 in
theorem itoa_nought (w : World) :
    Calls Ybaf.prog 8 #[.int .i64 0] w fun e w' => e = .returned (.string ⟨(Lib.itoa 0).toArray⟩) ∧ Below w.heap.size w w' := by
  go_enter Ybaf.func8, Ybaf.ntmps8
  go_wp2
  go_loopw [3, 6] (fun x i wr => x = .int .u64 0 ∧ i = .int .i64 23 ∧ Buf w wr 23 [48]) (fun x _ _ => (intOf x).toNat)
  case atStart => exact ⟨rfl, rfl, Buf.one _ _ rfl rfl⟩
  case round =>
    obtain ⟨rfl, rfl, hB⟩ := hrel
    have hsl := slice_law w.heap.size 23 (by decide)
    have htx := hB.text
    have hbl := hB.below
    clear hB
    rw [show ((23 : Nat) : Int) = 23 from rfl] at hsl
    rw [show 24 - 23 = 1 from rfl] at hsl htx
    go_wp2
    go_ret
    exact ⟨ret_str itoa_zero.symm, hbl⟩

/-- The hand-written itoa writes what the library's does. -/
theorem itoa_walk (n : Int) (w : World) (h0 : -9223372036854775808 ≤ n) (h1 : n ≤ 9223372036854775807) :
    Calls Ybaf.prog 8 #[.int .i64 n] w fun e w' => e = .returned (.string ⟨(Lib.itoa n).toArray⟩) ∧ Below w.heap.size w w' := by
  rcases Int.lt_trichotomy n 0 with h | h | h
  · exact itoa_neg n w h h0
  · subst h; exact itoa_nought w
  · exact itoa_pos n w h h1
end Go.Proofs.YbulkbuigFmt
