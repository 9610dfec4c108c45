/-
  The walk of LawS3540COrder.
-/
import Derived.Test.YbulkbuheF2
import Derived.OwnWalk
import Derived.Deep.RegionHeld3
import Derived.Deep.QuietTactic
import Derived.BigQuiet
namespace Go.Proofs.Ybulkbuhe
open Go.RowKit Fl
attribute [local go_sem] run_store_float setCell_drewN alloc_drewN
attribute [-go_sem] World.setCell_alloc_at World.setCell_alloc_past

def LawPost (w : World) (e : Ending) (w' : World) : Prop := e = .returned (.bool true) ∧ Below w.heap.size w w'
theorem info4 : (Yba.prog.info? 4).map (fun i => (i.zero, i.size, i.bytes)) = some (some (.bool false), 1, 1) := by kernel_rfl
def recO : Obj := .cells #[.slice none 0 0, .int .i64 0, .int .i64 0, .slice none 0 0, .slice none 0 0, .slice none 0 0, .slice none 0 0] 32

/-- What lies behind leastFirst. -/
structure Aft (base : Nat) (x : Addr) (len : Nat) (vals : Nat → Int) (key bar : Int) (w0 : World) (bb nk bd lb : Nat) (tr : List Vis) (v : Value) (w : World) : Prop where
  good : Good len vals (fun _ => 0) tr
  fst : ∀ j : Nat, fstN tr j = if key < j ∧ j < len ∧ vals j < bar then 1 else 0
  vals : Vals base x len vals w
  cn : w.cell? ⟨nk, 0, none⟩ = some (.int .i64 (tr.length : Int))
  cd : w.cell? ⟨bd, 0, none⟩ = some (.bool false)
  cl : w.cell? ⟨lb, 0, none⟩ = some v
  row : w.ownsRow base 21 1 v tr.length (logOf tr)
  below : Below base w0 w
  low : base ≤ w.heap.size
theorem Aft.idle {base : Nat} {x : Addr} {len : Nat} {vals : Nat → Int} {key bar : Int} {w0 : World} {bb nk bd lb : Nat} {tr : List Vis} {v : Value} {w w' : World} (a : Aft base x len vals key bar w0 bb nk bd lb tr v w) (hc : Chg (fun _ => False) w w') : Aft base x len vals key bar w0 bb nk bd lb tr v w' :=
  ⟨a.good, a.fst, a.vals.chg hc (fun _ h => h.elim), (hc.cell (World.block_lt_of_cell? w _ a.cn) id).trans a.cn, (hc.cell (World.block_lt_of_cell? w _ a.cd) id).trans a.cd, (hc.cell (World.block_lt_of_cell? w _ a.cl) id).trans a.cl, hc.row a.row (fun _ _ => id), Chg.below a.below hc a.low (fun _ h => h.elim), Nat.le_trans a.low hc.size⟩
theorem row_form {w : World} {base : Nat} {e : TypeId} {v : Value} {n : Nat} {xs : List Value} (hr : w.ownsRow base e 1 v n xs) : ∃ a cp, v = .slice a n cp ∧ (0 < n → ∃ g, a = some ⟨g, 0, none⟩) := by
  rcases Nat.eq_zero_or_pos n with h | h
  · subst h
    rcases hr.2 with ⟨e1, _⟩ | ⟨g, cap, cur, e1, _⟩
    · exact ⟨none, 0, e1, fun h => absurd h (Nat.lt_irrefl _)⟩
    · exact ⟨some ⟨g, 0, none⟩, cap, e1, fun h => absurd h (Nat.lt_irrefl _)⟩
  · obtain ⟨g, c, e, _⟩ := hr.form h
    exact ⟨some ⟨g, 0, none⟩, c, e, fun _ => ⟨g, rfl⟩⟩
def seenRow (tr : List Vis) (len k : Nat) : List Value := (List.range len).map fun j => Value.bool (seenB tr k j)
theorem seenRow_at (tr : List Vis) {len k j : Nat} (hj : j < len) : (seenRow tr len k)[j]? = some (.bool (seenB tr k j)) := by
  unfold seenRow
  rw [List.getElem?_map, List.getElem?_range hj]
  rfl
theorem seenRow_zero (tr : List Vis) (len : Nat) : List.replicate len (Value.bool false) = seenRow tr len 0 := by
  apply List.ext_getElem?
  intro i
  by_cases h : i < len
  · rw [seenRow_at tr h, seenB_zero, List.getElem?_replicate, if_pos h]
  · rw [List.getElem?_eq_none (by simpa using h), List.getElem?_eq_none (by simpa [seenRow] using h)]
theorem seenRow_next {len : Nat} {vals : Nat → Int} {tr : List Vis} (g : Good len vals (fun _ => 0) tr) {k : Nat} (hk : k < tr.length) : (seenRow tr len k).set (lj tr k) (.bool true) = seenRow tr len (k + 1) := by
  apply List.ext_getElem?
  intro i
  by_cases h : i < len
  · rw [seenRow_at tr h, lj_next g hk, List.getElem?_set]
    by_cases e : lj tr k = i
    · rw [if_pos e, if_pos (by simpa [seenRow] using lj_lt g hk), if_pos e.symm]
    · rw [if_neg e, if_neg (fun h' => e h'.symm), seenRow_at tr h]
  · rw [List.getElem?_eq_none (by simpa [seenRow] using h), List.getElem?_eq_none (by simpa [seenRow] using h)]

set_option maxHeartbeats 4000000 in
set_option maxRecDepth 100000 in
theorem order_main (w : World) (x : Addr) (len cap : Nat) (vals : Nat → Int) (key bar : Int) (h0 : 1 ≤ len) (hl : len ≤ 1024) (hv : ∀ j, 0 ≤ vals j ∧ vals j ≤ 255) (hx : Vals w.heap.size x len vals w)
    (hk : -32768 ≤ key ∧ key ≤ 32767) (hbr : -32768 ≤ bar ∧ bar ≤ 32767) :
    Calls Yba.prog 3 #[.slice (some x) len cap, .int .i16 key, .int .i16 bar] w (LawPost w) := by
  have dl : decide ((1024 : Int) < (len : Int)) = false := by rw [decide_eq_false_iff_not]; omega
  have hfl := fl_eq bar
  have hw32 : wrap32 key = key := by have := IntKind.wrap_i32 key; unfold wrap32; omega
  have hwk : IntKind.i64.wrap key = key := by rw [IntKind.wrap_i64]; omega
  have hwb : IntKind.i64.wrap bar = bar := by rw [IntKind.wrap_i64]; omega
  obtain ⟨bs, hbs⟩ : ∃ bs, bs = w.heap.size := ⟨_, rfl⟩
  have HBs : Hid (bs = w.heap.size) := hbs
  have hcs : ∀ i, (w.alloc recO).cell? ⟨w.heap.size, i, none⟩ = (#[Value.slice none 0 0, .int .i64 0, .int .i64 0, .slice none 0 0, .slice none 0 0, .slice none 0 0, .slice none 0 0] : Array Value)[i]? := fun i => World.cell?_alloc_new ..
  have hV1 : Vals w.heap.size x len vals (w.alloc recO) := hx.chg (Chg.alloc (fun _ => False) w recO) (fun _ h => h.elim)
  have HBd := build_walk (w.alloc recO) w.heap.size w.heap.size len cap x vals h0 hl hv (hcs 0) (hcs 2) (fun i => by unfold recO; rw [World.frozen?_alloc_new]) (Nat.le_refl _) (by simp) hV1
  have HCs : Hid _ := hcs
  have HV : Hid _ := hv
  have HX1 : Hid (Vals w.heap.size x len vals (w.alloc recO)) := hV1
  have HX : Hid (Vals w.heap.size x len vals w) := hx
  clear hcs hv hx hV1 hbs
  go_enter Yba.func3, Yba.ntmps3
  go_wp2_with fail
  refine HBd.mono ?_
  intro e w1 hB
  have hB' := hB
  obtain ⟨cb, nb, cp, M, rfl, hT, hM, hch, hrest, hcb, hnb⟩ := hB'
  have hlow1 : w.heap.size ≤ w1.heap.size := by
    have h1 := hch.size
    have h2 : (w.alloc recO).heap.size = w.heap.size + 1 := by simp
    omega
  have hV2 := HX1.out.chg hch (fun k e => by rw [e]; exact Nat.le_refl _)
  have hbel1 : Below w.heap.size w w1 := Chg.below (Below.refl _ _) ((Chg.alloc (fun k => k = w.heap.size) w recO).trans hch (fun _ _ h => h)) (Nat.le_refl _) (fun i e => by rw [e]; exact Nat.le_refl _)
  have HB1 : Hid (BuildPost w.heap.size w.heap.size (shapeOf len) vals (w.alloc recO) (.returned (.int .i32 (shapeOf len).root)) w1) := hB
  have HV2 : Hid (Vals w.heap.size x len vals w1) := hV2
  have HBel : Hid (Below w.heap.size w w1) := hbel1
  have HLow : Hid _ := hlow1
  clear hB hT hM hch hrest hcb hnb HBd hV2 hbel1 hlow1
  go_wp2_with fail
  have hst := ord_start w1 w.heap.size bar HLow.out
  have cs : Cells w1.heap.size (w1.heap.size + 1 + 1) (w1.heap.size + 1 + 1 + 1) (w1.heap.size + 1) := ⟨by omega, by omega, by omega, by omega, by omega, by omega⟩
  have HR := run_built (orderClient w.heap.size w1.heap.size (w1.heap.size + 1 + 1) (w1.heap.size + 1 + 1 + 1) (w1.heap.size + 1) cs bar (small_of (by omega) (by omega)) len hl vals) (w.alloc recO) w1 (ordW w1 bar) _ w.heap.size len key vals (ordF w1.heap.size) h0 hl HV.out (HCs.out 5) (HCs.out 6) HB1.out HLow.out hst.2 hst.1 (fun k e => by
    rcases e with e | e | e | e | e
    · omega
    · omega
    · omega
    · omega
    · cases e) (fun j => ⟨Int.le_refl _, (show (0 : Int) ≤ 255 by decide)⟩) (fun l h => h)
  refine HR.mono ?_
  rintro e w2 ⟨sm, sn, tr, F, cb, nb, cp, rfl, u1, ⟨v, hE⟩, hg, hf, u2, u3, u4, hcc⟩
  have hall := cnt_all hg
  have hA : Aft w.heap.size x len vals key bar w (w1.heap.size) (w1.heap.size + 1 + 1) (w1.heap.size + 1 + 1 + 1) (w1.heap.size + 1) tr v w2 :=
    ⟨hg, hf, (HV2.out.chg hst.2 (fun _ h => h.elim)).chg hcc (fun k h => h), by rw [hE.cn, ← hall.2.1], hE.cd, hE.cl, hE.row, Chg.below (Chg.below HBel.out hst.2 HLow.out (fun _ h => h.elim)) hcc (Nat.le_trans HLow.out hst.2.size) (fun _ h => h), hE.low⟩
  have HA : Hid _ := hA
  clear u1 u2 u3 u4 hA hE hg hf hcc HR hst cs HV2 HBel HLow HB1 HCs HX1 HX
  generalize w1.heap.size + 1 + 1 + 1 = bd at HA ⊢
  generalize w1.heap.size + 1 + 1 = nk at HA ⊢
  generalize w1.heap.size + 1 = lb at HA ⊢
  obtain ⟨av, cp2, rfl, hav⟩ := row_form HA.out.row
  have hcdd := HA.out.cd
  have htl := hall.2.2
  have hcl9 : ∀ j, cntF tr j ≤ j := cntF_le tr (Good.fst1 _ tr rfl HA.out.good)
  have HCl : Hid _ := hcl9
  have HAv : Hid _ := hav
  have HAll : Hid _ := hall
  clear hcl9 hav hall
  go_wp2_with fail
  go_loopw [13, 14] (fun wv jv wr => ∃ j : Nat, j ≤ len ∧ wv = .int .i64 (cntF tr j : Int) ∧ jv = .int .i64 (j : Int) ∧ wr = w2) (fun _ jv _ => len - (intOf jv).toNat)
  case atStart => exact ⟨0, Nat.zero_le _, by rw [cntF_zero]; rfl, rfl, rfl⟩
  case round =>
    clear hcdd
    obtain ⟨j, hj, rfl, rfl, rfl⟩ := hrel
    by_cases hlt : j < len
    · have d1 : decide ((j : Int) < (len : Int)) = true := by rw [decide_eq_true_iff]; omega
      have hvj := HA.out.vals.2 j hlt
      have hji0 : (0 : Int) ≤ (j : Int) := by omega
      have hjil : (j : Int) < (len : Int) := by omega
      have hjil2 : (len : Int) ≤ 1024 := by omega
      have hnx := cnt_next HA.out.fst hlt
      have hwv : IntKind.i64.wrap (vals j) = vals j := by have := HV.out j; rw [IntKind.wrap_i64]; omega
      have hc9 := HCl.out j
      generalize cntF tr j = c at hnx hc9 ⊢
      have hci : (c : Int) ≤ 1024 := by omega
      have HNx : Hid _ := hnx
      clear hnx
      by_cases hkj : key < (j : Int)
      · have e1 : decide (key < (j : Int)) = true := by rw [decide_eq_true_iff]; exact hkj
        by_cases hbj : vals j < bar
        · have e2 : decide (vals j < bar) = true := by rw [decide_eq_true_iff]; exact hbj
          have hnx := HNx.out
          rw [if_pos ⟨hkj, hbj⟩] at hnx
          have HN2 : Hid _ := hnx
          clear hnx
          go_wp2_with fail
          go_roundw
          case rel => exact ⟨j + 1, by omega, by rw [HN2.out]; go_num, by go_num, by trivial⟩
          case measure => simp [intOf]; omega
        · have e2 : decide (vals j < bar) = false := by rw [decide_eq_false_iff_not]; exact hbj
          have hnx := HNx.out
          rw [if_neg (fun h => hbj h.2)] at hnx
          have HN2 : Hid _ := hnx
          clear hnx
          go_wp2_with fail
          go_roundw
          case rel => exact ⟨j + 1, by omega, by rw [HN2.out], by go_num, by trivial⟩
          case measure => simp [intOf]; omega
      · have e1 : decide (key < (j : Int)) = false := by rw [decide_eq_false_iff_not]; exact hkj
        have hnx := HNx.out
        rw [if_neg (fun h => hkj h.1)] at hnx
        have HN2 : Hid _ := hnx
        clear hnx
        go_wp2_with fail
        go_roundw
        case rel => exact ⟨j + 1, by omega, by rw [HN2.out], by go_num, by trivial⟩
        case measure => simp [intOf]; omega
    · have d1 : decide ((j : Int) < (len : Int)) = false := by rw [decide_eq_false_iff_not]; omega
      have hcj : cntF tr j = tr.length := by rw [show j = len by omega]; exact HAll.out.1
      rw [hcj]
      obtain ⟨W2, hW2⟩ : ∃ W2, W2 = wr := ⟨wr, rfl⟩
      subst hW2
      have hcl2 := HA.out.cl
      have hcn2 := HA.out.cn
      have hnl : (tr.length : Int) ≤ 1024 := by omega
      obtain ⟨i0, hi, hz, hsz, hby⟩ := info_parts info4
      go_wp2_with (first | (at_make; refine wpList_make_full _ rfl _ _ 46 rfl w.heap.size 4 i0 (.bool false) 1 Yba.underlying46 hi hz hsz _ _ _ _ len rfl rfl rfl rfl (by rw [hby]; omega) (by unfold maxLen; omega) HA.out.low ?_; intro w3 hown3 hgrow3))
      have hc3 : Chg (fun _ => False) W2 w3 := Chg.grown hgrow3 (fun k e => by cases e)
      rw [show Value.cells (.bool false) = #[.bool false] from rfl, toList_madeCells_one, Nat.mul_one, seenRow_zero tr len] at hown3
      have hsb : W2.heap.size ≤ W2.heap.size := Nat.le_refl _
      generalize hsbe : W2.heap.size = sb at hown3 ⊢
      have hsb : W2.heap.size ≤ sb := by omega
      have HSb : Hid (W2.heap.size ≤ sb) := hsb
      have HSt : Hid (Chg (fun _ => False) W2 w3 ∧ w3.ownsRow w.heap.size 4 1 (.slice (some ⟨sb, 0, none⟩) len len) len (seenRow tr len 0)) := ⟨hc3, hown3⟩
      clear hc3 hown3 hgrow3 hsb hsbe hcl2 hcn2 hcj
      go_loopw [16] (fun kv wr3 => ∃ k : Nat, k ≤ tr.length ∧ kv = .int .i64 (k : Int) ∧ Chg (fun _ => False) W2 wr3 ∧ wr3.ownsRow w.heap.size 4 1 (.slice (some ⟨sb, 0, none⟩) len len) len (seenRow tr len k)) (fun kv _ => tr.length - (intOf kv).toNat)
      case atStart => exact ⟨0, Nat.zero_le _, rfl, HSt.out.1, HSt.out.2⟩
      case round =>
        clear HSt
        obtain ⟨k, hkl, rfl, hc, hrow⟩ := hrel
        have hA := HA.out.idle hc
        have hcl := hA.cl
        by_cases hlk : k < tr.length
        · have d2 : decide ((k : Int) < (tr.length : Int)) = true := by rw [decide_eq_true_iff]; omega
          obtain ⟨g, rfl⟩ := HAv.out (by omega)
          have ck := hA.row.cellAt k (by omega)
          rw [lj_row tr k hlk] at ck
          have hjl := lj_lt hA.good hlk
          have hjn := lj_new hA.good hlk
          have hji := lj_in hA.good hA.fst hlk
          have hjs := seenRow_next hA.good hlk
          have hjp : ∀ kp, k = kp + 1 → vals (lj tr kp) ≤ vals (lj tr k) := fun kp e => by subst e; exact lj_le hA.good hlk
          have cs := hrow.cellAt (lj tr k) (by omega)
          rw [seenRow_at tr hjl, hjn] at cs
          have sfs := hrow.frozenAt (lj tr k)
          have hst := (hrow.stored (lj tr k) (.bool true)).1
          rw [hjs] at hst
          have hcv := hA.vals.2 _ hjl
          generalize lj tr k = jj at ck hjl hjn hji hjs hjp cs sfs hst hcv
          have hji0 : (0 : Int) ≤ (jj : Int) := by omega
          have hjil : (jj : Int) < (len : Int) := by omega
          have hjw : (jj : Int) < 1024 := by omega
          have hki0 : (0 : Int) ≤ (k : Int) := by omega
          have hkil : (k : Int) < (tr.length : Int) := by omega
          have hwv : IntKind.i64.wrap (vals jj) = vals jj := by have := HV.out jj; rw [IntKind.wrap_i64]; omega
          have hwj : IntKind.i64.wrap (jj : Int) = (jj : Int) := by rw [IntKind.wrap_i64]; omega
          have e1 : decide ((jj : Int) < 0) = false := by rw [decide_eq_false_iff_not]; omega
          have e2 : decide ((len : Int) ≤ (jj : Int)) = false := by rw [decide_eq_false_iff_not]; omega
          have e3 : decide ((jj : Int) ≤ key) = false := by rw [decide_eq_false_iff_not]; omega
          have e4 : decide (bar ≤ vals jj) = false := by rw [decide_eq_false_iff_not]; omega
          have hc4 : Chg (fun _ => False) W2 (wr.setCell ⟨sb, jj, none⟩ (.bool true)) := hc.trans (Chg.setCell (S := fun k => k = sb) wr ⟨sb, jj, none⟩ _ rfl) (fun i hi e => by have := HSb.out; omega)
          have HSt : Hid (Chg (fun _ => False) W2 (wr.setCell ⟨sb, jj, none⟩ (.bool true)) ∧ (wr.setCell ⟨sb, jj, none⟩ (.bool true)).ownsRow w.heap.size 4 1 (.slice (some ⟨sb, 0, none⟩) len len) len (seenRow tr len (k + 1))) := ⟨hc4, hst⟩
          have hA4 := HA.out.idle hc4
          have HA4 : Hid _ := hA4
          have HJp : Hid _ := hjp
          clear hA hjn hji hjs hst hc4 hA4 hjp hrow hc
          go_wp2_with fail
          clear cs sfs ck hcv
          generalize wr.setCell ⟨sb, jj, none⟩ (.bool true) = W4 at HSt HA4 ⊢
          have hcl4 := HA4.out.cl
          have hcv4 := HA4.out.vals.2 _ hjl
          clear hcl
          by_cases hk0 : k = 0
          · have d3 : decide ((0 : Int) < (k : Int)) = false := by rw [decide_eq_false_iff_not]; omega
            go_quiet (fail)
            go_wp2_with fail
            go_roundw
            case rel => exact ⟨k + 1, hlk, by go_num, HSt.out.1.trans (Chg.drewN _ _ _) (fun _ _ h => h), HSt.out.2⟩
            case measure => simp [intOf]; omega
          · have d3 : decide ((0 : Int) < (k : Int)) = true := by rw [decide_eq_true_iff]; omega
            have hk9 : 0 < k := by omega
            obtain ⟨kp, hkp⟩ : ∃ kp, k = kp + 1 := ⟨k - 1, by omega⟩
            have hw1 : IntKind.i64.wrap ((k : Int) - 1) = (kp : Int) := by rw [IntKind.wrap_i64]; omega
            have ckp := HA4.out.row.cellAt kp (by omega)
            rw [lj_row tr kp (by omega)] at ckp
            have hpl := lj_lt HA4.out.good (show kp < tr.length by omega)
            have hvp := HA4.out.vals.2 _ hpl
            have hle := HJp.out kp hkp
            generalize lj tr kp = jp at ckp hpl hvp hle
            have hp0 : (0 : Int) ≤ (jp : Int) := by omega
            have hpi : (jp : Int) < (len : Int) := by omega
            have hkp0 : (0 : Int) ≤ (kp : Int) := by omega
            have hkpi : (kp : Int) < (tr.length : Int) := by omega
            have e5 : decide (vals jj < vals jp) = false := by rw [decide_eq_false_iff_not]; omega
            clear HJp hkp
            go_quiet (fail)
            go_wp2_with fail
            go_roundw
            case rel => exact ⟨k + 1, hlk, by go_num, HSt.out.1.trans (Chg.drewN _ _ _) (fun _ _ h => h), HSt.out.2⟩
            case measure => simp [intOf]; omega
        · have d2 : decide ((k : Int) < (tr.length : Int)) = false := by rw [decide_eq_false_iff_not]; omega
          have HFin : Hid (LawPost w (.returned (.bool true)) wr) := ⟨rfl, hA.below⟩
          clear hA hrow hc
          go_wp2_with fail
          go_ret
          exact HFin.out
end Go.Proofs.Ybulkbuhe
