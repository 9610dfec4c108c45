/-
  LawS3540AExact: the row's step and the tied card.
-/
import Derived.Test.YbulkbuheDoorOpen
import Derived.Test.YbulkbuheDoorX5
import Derived.Lib.LaidTab
import Derived.Test.YbulkbuheDoorTie
import Derived.Test.YbulkbuheDoorCards
import Derived.SevenTiedAt
namespace Go.Proofs.YbulkbuheDoor
open Go.ChangeShapes Go.WideShapes Go.ChangeAt Go.RowKit Fl
namespace Exact

theorem tab_of_laid {W : World} (h : laidMetH Ybad.prog Rows.lawS3540AExactRow.laid W) : Tab W ∧ 1 < W.heap.size := by
  rw [MakeChecks.laidMetH_plain _ _ _ (by kernel_rfl)] at h
  have ht : Lib.TabIs Ybad.prog W (Rows.lawS3540AExactRow.named.getD 0 "") .u8 (Lib.deBruijn64tab.map Int.ofNat) :=
    Lib.tabIs_of_head (g := 1) (t := 68) (e := 5) (n := 64) (by kernel_rfl) (by kernel_rfl) Ybad.underlying68 Ybad.underlying5 (by kernel_rfl) (by kernel_rfl) h
  have hc : Tab W := fun j hj => by
    have := ht.cell (g := 1) (by kernel_rfl) j (by simpa using hj)
    rw [this]
    simp [List.getD_eq_getElem?_getD, List.getElem?_eq_getElem hj]
  refine ⟨hc, ?_⟩
  have h0 := hc 0 (by decide)
  exact World.block_lt_of_cell? W ⟨1, 0, none⟩ h0

set_option maxRecDepth 100000 in
theorem lifted (os : Os) (started : os.Started) (H : Type) (enc : TypeId × Value → H) :
    ReturnsInHanded {} Ybad.checked os 3 .any (fun w args => (Rows.lawS3540AExactSpec.pre enc Ybad.prog Ybad.f3 [] false w args ∧ laidMetH Ybad.prog Rows.lawS3540AExactRow.laid w) ∧ sizedMet enc Ybad.prog Ybad.f3 (OpenSpec.ofChange Rows.lawS3540AExactSpec) false w args)
      (Rows.lawS3540AExactSpec.post enc Ybad.prog Ybad.f3 false true false false) := by
  refine returnsInHanded_of_change_and (C := Ybad.checked) (X := fun w _ => laidMetH Ybad.prog Rows.lawS3540AExactRow.laid w) (fun _ _ _ hh h => h.of_heap hh) own started (by kernel_rfl) Ybad.func3
    (ChangeSpec.witness_shaped (enc := enc) (C := Ybad.checked) (os := os) (X := fun w _ => laidMetH Ybad.prog Rows.lawS3540AExactRow.laid w) false (World.doorLaid Ybad.prog 14 os) #[.agg #[.int .i32 0, .int .u32 0, .int .u16 0, .int .i32 0, .int .i32 0, .int .u64 0, .int .i32 0, .int .i32 0, .int .u64 0, .int .u64 0, .int .i32 0]] 8 rfl (World.shaped_of_RefB (by kernel_rfl) (by kernel_rfl)) (by kernel_rfl) (by kernel_rfl) (by kernel_rfl) (door_met os _)) ?_
  intro W base args ds gs before hval0 hW _ _ hL _
  obtain ⟨tab, hsz⟩ := tab_of_laid hL
  have hval : ∀ (j : Nat) t v, Ybad.f3.params[j]? = some t → args[j]? = some v → Value.okWide Ybad.prog W .any base t v := hval0
  have hW' := hW
  obtain ⟨p, q, hA0, hV, rfl, hfz, hnd⟩ := hW
  have hA : DataW.TrodAll enc Ybad.prog W 0 (fun _ => true) true Ybad.f3.params.toList args.toList ds p := hA0
  rw [Ybad.params3] at hA hval
  obtain ⟨v0, d0, rfl, rfl, h0⟩ := trodAll_one hA
  obtain ⟨rfl, rfl⟩ := trodVars_none hV
  have k0 := h0
  have lt0 : ∀ x ∈ p, x.block < W.heap.size := by obtain ⟨m, hm⟩ := k0; exact DataW.trod_lt m _ _ _ hm
  obtain ⟨sub, span, add, times, reach, by_, lat, end_, adm, rby, grp, rfl, f0, f1, f2, f3, f4, f5⟩ := open26 (hval 0 26 v0 rfl rfl)
  clear hA0 hval0
  refine (exact_law sub span add times reach by_ lat end_ adm rby grp W f0 f1 f2 f3 f4 f5 tab hsz).mono fun e W' ⟨he, bel⟩ => ?_
  subst he
  exact ⟨_, rfl, _, _, _, [], _, [], hW', trodAll_mk1 (shut_bool Ybad.underlying4 _), trodAll_mk1 (Below.trod laidOut (by kernel_rfl) (of_decide_eq_true (by kernel_rfl)) k0 bel lt0), rfl, bel.frame _, fun h => by cases h⟩

theorem over : Rows.LawS3540AExactSaid :=
  OpenClaim.holds_of_wide 3 Ybad.f3 rfl rfl rfl rfl rfl rfl rfl ⟨rfl, rfl, rfl, rfl, rfl⟩ rfl rfl rfl rfl rfl (by kernel_rfl) Ybad.func3 (by kernel_rfl)
    (of_decide_eq_true (by kernel_rfl)) (by unfold Func.isWrapper; first | (rw [if_pos (by decide +kernel)]; kernel_rfl) | (rw [if_neg (by decide +kernel)]; exact ⟨rfl, rfl⟩))
    (fun os started H enc _ => lifted os started H enc)

theorem card_holds : Rows.LawS3540AExactCardSaid :=
  Claim7.holds_tied_plain_at .later [] [.data] true (true, "e49608f66f9d23c91cdd8edeae4866367e4cded8371f1f7f8b26c2ff909202ba") false
    over (fun _ h => by cases h) (by kernel_rfl) (fun _ h => by cases h) lawS3540AExact_row_tie rfl ⟨rfl, rfl⟩ (by kernel_rfl) rfl
    (fun f fn hf hfn => by
      obtain rfl : f = 3 := Option.some.inj ((show Ybad.prog.funcNamed Rows.lawS3540AExactRow.func = some 3 by kernel_rfl).symm.trans hf) |>.symm
      obtain rfl : fn = Ybad.f3 := (Option.some.inj (Ybad.func3.symm.trans hfn)).symm
      exact ⟨by kernel_rfl, fun j t ht => by
        rw [Ybad.params3] at ht
        have hm : t ∈ [26] := by simpa using Array.mem_of_getElem? ht
        have hall : ([26].all fun u => !Ybad.prog.wantsStandIn u) = true := by kernel_rfl
        exact (show Ybad.prog.wantsStandIn t = false by simpa using List.all_eq_true.1 hall t hm)⟩)
    (by kernel_rfl)
end Exact
theorem exact_card : Rows.LawS3540AExactCardSaid := Exact.card_holds
#print axioms exact_card
end Go.Proofs.YbulkbuheDoor
