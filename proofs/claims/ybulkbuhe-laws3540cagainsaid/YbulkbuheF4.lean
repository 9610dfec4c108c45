/-
  LawS3540COrder: no values; too many.
-/
import Derived.Test.YbulkbuheF3
namespace Go.Proofs.Ybulkbuhe
open Go.RowKit Fl
attribute [local go_sem] run_store_float setCell_drewN alloc_drewN
attribute [-go_sem] World.setCell_alloc_at World.setCell_alloc_past

set_option maxHeartbeats 4000000 in
set_option maxRecDepth 100000 in
theorem order_none (w : World) (a : Option Addr) (cap : Nat) (key bar : Int) : Calls Yba.prog 3 #[.slice a 0 cap, .int .i16 key, .int .i16 bar] w (LawPost w) := by
  have hfl := fl_eq bar
  have hcs : ∀ i, (w.alloc recO).cell? ⟨w.heap.size, i, none⟩ = (#[Value.slice none 0 0, .int .i64 0, .int .i64 0, .slice none 0 0, .slice none 0 0, .slice none 0 0, .slice none 0 0] : Array Value)[i]? := fun i => World.cell?_alloc_new ..
  have HBd := build0_walk (w.alloc recO) w.heap.size w.heap.size cap a (hcs 0) (hcs 2) (fun i => by unfold recO; rw [World.frozen?_alloc_new]) (Nat.le_refl _) (by simp)
  clear hcs
  go_enter Yba.func3, Yba.ntmps3
  go_wp2_with fail
  refine HBd.mono ?_
  rintro e w1 ⟨rfl, hch⟩
  have hbel1 : Below w.heap.size w w1 := Chg.below (Below.refl _ _) ((Chg.alloc (fun k => k = w.heap.size) w recO).trans hch (fun _ _ h => h)) (Nat.le_refl _) (fun i e => by rw [e]; exact Nat.le_refl _)
  have hlow1 : w.heap.size ≤ w1.heap.size := by
    have h1 := hch.size
    have h2 : (w.alloc recO).heap.size = w.heap.size + 1 := by simp
    omega
  have HBel : Hid (Below w.heap.size w w1) := hbel1
  have HLow : Hid (w.heap.size ≤ w1.heap.size) := hlow1
  clear hch HBd hbel1 hlow1
  go_wp2_with fail
  have hst := ord_start w1 w.heap.size bar HLow.out
  refine (least0_walk _ w.heap.size _ _ _ _ _ _).mono ?_
  rintro e w' ⟨rfl, hw'⟩
  have hw' := hw'.symm
  subst hw'
  unfold ordW at hst
  generalize (((((((w1.alloc (.cells #[.float .f64 0] 35)).setCell ⟨w1.heap.size, 0, none⟩ (.float .f64 (fl bar))).alloc (.cells #[.slice none 0 0] 28)).alloc (.cells #[.int .i64 0] 3)).setCell ⟨w1.heap.size + 1 + 1, 0, none⟩ (.int .i64 0)).alloc (.cells #[.bool false] 4)).setCell ⟨w1.heap.size + 1 + 1 + 1, 0, none⟩ (.bool false)) = W2 at hst ⊢
  obtain ⟨⟨v, hE⟩, hc⟩ := hst
  obtain ⟨av, cp2, rfl, _⟩ := row_form hE.row
  have hcd := hE.cd
  have hcl := hE.cl
  have hcn := hE.cn
  have hlow := hE.low
  have HFin : Hid (Below w.heap.size w W2) := Chg.below HBel.out hc HLow.out (fun _ h => h.elim)
  clear hE hc
  simp only [List.length_nil] at hcl
  go_wp2_with fail
  go_loopw [13, 14] (fun wv jv wr => wv = .int .i64 0 ∧ jv = .int .i64 0 ∧ wr = W2) (fun _ _ _ => 0)
  case atStart => exact ⟨rfl, rfl, rfl⟩
  case round =>
    obtain ⟨rfl, rfl, rfl⟩ := hrel
    obtain ⟨i0, hi, hz, hsz, hby⟩ := info_parts info4
    go_wp2_with (first | (at_make; refine wpList_make_full _ rfl _ _ 46 rfl w.heap.size 4 i0 (.bool false) 1 Yba.underlying46 hi hz hsz _ _ _ _ 0 rfl rfl rfl rfl (by omega) (by unfold maxLen; omega) hlow ?_; intro w3 hown3 hgrow3))
    have hc3 : Chg (fun _ => False) wr w3 := Chg.grown hgrow3 (fun k e => by cases e)
    have hcl3 := (hc3.cell (World.block_lt_of_cell? _ _ hcl) id).trans hcl
    have HFin3 : Hid (Below w.heap.size w w3) := Chg.below HFin.out hc3 hlow (fun _ h => h.elim)
    clear hc3 hown3 hgrow3
    go_loopw [16] (fun kv wr3 => kv = .int .i64 0 ∧ wr3 = w3) (fun _ _ => 0)
    case atStart => exact ⟨rfl, rfl⟩
    case round =>
      obtain ⟨rfl, rfl⟩ := hrel
      go_wp2_with fail
      go_ret
      exact ⟨rfl, HFin3.out⟩

set_option maxHeartbeats 1000000 in
set_option maxRecDepth 100000 in
theorem order_many (w : World) (a : Option Addr) (len cap : Nat) (key bar : Int) (hl : 1024 < len) : Calls Yba.prog 3 #[.slice a len cap, .int .i16 key, .int .i16 bar] w (LawPost w) := by
  have dl : decide ((1024 : Int) < (len : Int)) = true := by rw [decide_eq_true_iff]; omega
  go_enter Yba.func3, Yba.ntmps3
  go_wp2_with fail
  go_ret
  exact ⟨rfl, Below.refl _ _⟩

/-- The numbers of a row, as a function. -/
def valsOf (len : Nat) (zs : List Int) (j : Nat) : Int := if j < len then zs.getD j 0 else 0
theorem valsOf_range {len : Nat} {zs : List Int} (h : ∀ n ∈ zs, (Lit.int .u8 n).wf = true) (j : Nat) : 0 ≤ valsOf len zs j ∧ valsOf len zs j ≤ 255 := by
  unfold valsOf
  split
  · rcases Nat.lt_or_ge j zs.length with e | e
    · rw [List.getD_eq_getElem?_getD, List.getElem?_eq_getElem e]
      have := h _ (List.getElem_mem e)
      rw [Lit.wf, Bool.and_eq_true, decide_eq_true_iff, decide_eq_true_iff] at this
      have e1 : IntKind.u8.min = 0 := by decide
      have e2 : IntKind.u8.max = 255 := by decide
      simp only [Option.getD_some]
      omega
    · rw [List.getD_eq_getElem?_getD, List.getElem?_eq_none e]
      simp
  · omega
theorem i16_range {n : Int} (h : (Lit.int .i16 n).wf = true) : -32768 ≤ n ∧ n ≤ 32767 := by
  rw [Lit.wf, Bool.and_eq_true, decide_eq_true_iff, decide_eq_true_iff] at h
  have e1 : IntKind.i16.min = -32768 := by decide
  have e2 : IntKind.i16.max = 32767 := by decide
  omega
theorem valsOf_vals {w : World} {x : Addr} {len cap : Nat} {zs : List Int} (h0 : 1 ≤ len) (hlc : len ≤ cap) (hz : zs.length = cap) (hc : ∀ i, i < zs.length → w.cell? (x.add i) = some (.int .u8 (zs.getD i 0))) : Vals w.heap.size x len (valsOf len zs) w := by
  refine ⟨?_, fun j hj => ?_⟩
  · have hb : (x.add 0).block = x.block := by unfold Addr.add; split <;> rfl
    have := World.block_lt_of_cell? w _ (hc 0 (by omega))
    rw [hb] at this
    exact this
  · unfold valsOf
    rw [if_pos hj]
    exact hc j (by omega)
end Go.Proofs.Ybulkbuhe
