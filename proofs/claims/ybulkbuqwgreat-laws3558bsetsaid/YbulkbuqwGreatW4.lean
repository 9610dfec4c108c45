/-
  The walk of the law LawS3558BSet.
-/
import Derived.Test.YbulkbuqwGreatW3
import Derived.Deep.RegionWith
import Derived.Deep.QuietTactic
import Derived.BigQuiet
namespace Go.Proofs.YbulkbuqwGreat
open Go.RowKit Go.MuLone Go.ChangeMaps

/-- The node's block as it is laid. -/
theorem start_st (w : World) (C : Array Value) (h44 : C[44]? = some (.int .i32 0)) (h55 : C[55]? = some (.map (some w.heap.size))) (h56 : C[56]? = some (.map none)) :
    St w ((w.alloc (.map #[] 0)).alloc (.cells C 77)) (w.heap.size + 1) w.heap.size [] 0 := by
  have hz : (w.alloc (.map #[] 0)).heap.size = w.heap.size + 1 := by simp
  have hc : ∀ i, ((w.alloc (.map #[] 0)).alloc (.cells C 77)).cell? ⟨w.heap.size + 1, i, none⟩ = C[i]? := fun i => by rw [← hz, World.cell?_alloc_new]
  refine ⟨((Below.refl _ w).alloc (Nat.le_refl _) _).alloc (by simp) _, Nat.le_refl _, by omega, by simp, by rw [hc]; exact h44, by rw [hc]; exact h55, by rw [hc]; exact h56, World.frozen?_alloc_at _ _ _ _ hz.symm, #[], 0, ?_, Ports.nil⟩
  rw [Below.heap_alloc _ _ _ (by rw [hz]; omega)]
  show (w.heap.push _)[w.heap.size]? = _
  simp

set_option maxHeartbeats 1600000 in
set_option maxRecDepth 100000 in
theorem law_walk (a0 : Option Addr) (len0 cap0 : Nat) (z0 : List Int) (a1 : Option Addr) (len1 cap1 : Nat) (z1 : List Int) (q : Int) (w : World) (w0 : IsRow .u16 w a0 len0 cap0 z0) (w1 : IsRow .u16 w a1 len1 cap1 z1) (h0 : len0 ≤ 1024) (h1 : len1 ≤ 1024) :
    Calls Ybaz.prog 3 #[.slice a0 len0 cap0, .slice a1 len1 cap1, .int .u16 q] w fun e w' => e = .returned (.bool true) ∧ Below w.heap.size w w' := by
  have d0 : decide (1024 < (len0 : Int)) = false := by rw [decide_eq_false_iff_not]; omega
  have d1 : decide (1024 < (len1 : Int)) = false := by rw [decide_eq_false_iff_not]; omega
  have hmm := @run_makeMap Ybaz.prog
  have hx0 : (z0.take len0).length = len0 := by rw [List.length_take]; have := w0.len_le; omega
  have hx1 : (z1.take len1).length = len1 := by rw [List.length_take]; have := w1.len_le; omega
  go_enter Ybaz.func3, Ybaz.ntmps3
  go_wp2_with fail
  go_loopw [34] (fun i wr => ∃ k : Nat, k ≤ len0 ∧ i = .int .i64 k ∧ St w wr (w.heap.size + 1) w.heap.size (insAll [] ((z0.take len0).take k)) 0) (fun i _ => len0 - (intOf i).toNat)
  case atStart => exact ⟨0, Nat.zero_le _, rfl, start_st w _ rfl rfl rfl⟩
  case round =>
    obtain ⟨k, hk, rfl, hs⟩ := hrel
    by_cases hlt : k < len0
    · obtain ⟨b, off, rfl, hb, hc⟩ := w0.at k hlt
      have g : wr.cell? ⟨b, off + k, none⟩ = some (.int .u16 ((z0.take len0)[k])) := by
        rw [hs.below.cell (by exact hb)]; exact hc k (by omega)
      generalize hp : (z0.take len0)[k] = p at g
      have mp := hs.mp
      go_wp2_with fail
      go_region_with (go_at_call 4; refine (ap_walk _ _).mono ?_; rintro e wa ⟨rfl, hba⟩; have hsa := hs.drew.grow hba; have mpa := hsa.mp; obtain ⟨o, hrun, hm⟩ := map_update wa _ _ p hsa.map)
      all_goals
        have hst := hsa.turn hm
        clear hrun hm hsa hba mpa
        go_wp2_with fail
        go_roundw
        case rel => exact ⟨k + 1, by omega, by go_num, by rw [insAll_snoc _ _ k (by omega), hp]; exact hst⟩
        case measure => simp [intOf]; omega
    · rw [List.take_of_length_le (by omega)] at hs
      obtain ⟨A, hA⟩ : ∃ A, A = insAll [] (z0.take len0) := ⟨_, rfl⟩
      rw [← hA] at hs
      have HA : Hid (A = insAll [] (z0.take len0)) := hA
      clear hA
      go_wp2_with fail
      go_loopw [47] (fun i wr => ∃ k : Nat, k ≤ len1 ∧ i = .int .i64 k ∧ St w wr (w.heap.size + 1) w.heap.size (insAll A ((z1.take len1).take k)) 0) (fun i _ => len1 - (intOf i).toNat)
      case atStart => exact ⟨0, Nat.zero_le _, rfl, hs⟩
      case round =>
        clear hs
        obtain ⟨k2, hk2, rfl, hs⟩ := hrel
        by_cases hlt2 : k2 < len1
        · obtain ⟨b, off, rfl, hb, hc⟩ := w1.at k2 hlt2
          have g : wr.cell? ⟨b, off + k2, none⟩ = some (.int .u16 ((z1.take len1)[k2])) := by
            rw [hs.below.cell (by exact hb)]; exact hc k2 (by omega)
          generalize hp : (z1.take len1)[k2] = p at g
          go_wp2_with fail
          refine (ap_walk _ _).mono ?_
          rintro e wa ⟨rfl, hba⟩
          have hsa := hs.grow hba
          go_wp2_with fail
          refine (ban_walk w _ _ p _ wa hsa).mono ?_
          rintro e wb ⟨rfl, hst⟩
          clear hsa hba
          go_wp2_with fail
          go_roundw
          case rel => exact ⟨k2 + 1, by omega, by go_num, by rw [insAll_snoc _ _ k2 (by omega), hp]; exact hst⟩
          case measure => simp [intOf]; omega
        · rw [List.take_of_length_le (by omega)] at hs
          obtain ⟨ps, hps⟩ : ∃ ps, ps = insAll A (z1.take len1) := ⟨_, rfl⟩
          rw [← hps] at hs
          have HP : Hid (ps = insAll A (z1.take len1)) := hps
          clear hps
          obtain ⟨B, hB⟩ : ∃ B, B = wr.heap.size := ⟨_, rfl⟩
          have hF0 : Full w wr (w.heap.size + 1) w.heap.size B ps (.slice none 0 0) [] := ⟨hs, by rw [hB]; exact hs.lt, by rw [hB]; exact Nat.le_refl _, World.ownsRow_nil _ _ _ _⟩
          clear hB
          obtain ⟨i0, hi, hz0, hz1, hz2⟩ := info_parts info23
          have hnot : ∀ (x : Bool) (w : World), (Op.unary .not (.bool x)).run Ybaz.prog w = .ok (.bool (!x)) w := fun _ _ => rfl
          go_wp2_with fail
          go_loopw [12, 58] (fun v i wr => ∃ k : Nat, k ≤ len0 ∧ i = .int .i64 k ∧ Full w wr (w.heap.size + 1) w.heap.size B ps v (insAll [] ((z0.take len0).take k))) (fun _ i _ => len0 - (intOf i).toNat)
          case atStart => exact ⟨0, Nat.zero_le _, rfl, hF0⟩
          case round =>
            clear hs hF0
            obtain ⟨k3, hk3, rfl, hF⟩ := hrel
            have hxl : (insAll [] ((z0.take len0).take k3)).length ≤ k3 := by
              have := insAll_length ((z0.take len0).take k3) []
              rw [List.length_take] at this
              simp only [List.length_nil, Nat.zero_add] at this
              omega
            by_cases hlt3 : k3 < len0
            · obtain ⟨b, off, rfl, hb, hc⟩ := w0.at k3 hlt3
              have g : wr.cell? ⟨b, off + k3, none⟩ = some (.int .u16 ((z0.take len0)[k3])) := by
                rw [hF.st.below.cell (by exact hb)]; exact hc k3 (by omega)
              have HS : Hid (insAll [] ((z0.take len0).take (k3 + 1)) = ins (insAll [] ((z0.take len0).take k3)) (z0.take len0)[k3]) := insAll_snoc _ _ k3 (by omega)
              generalize (z0.take len0)[k3] = p at g HS
              generalize insAll [] ((z0.take len0).take k3) = xs at hF hxl HS
              by_cases hin : p ∈ xs
              · have HI : Hid (ins xs p = xs) := by unfold ins; exact if_pos hin
                have hdec : decide (p ∈ xs) = true := by simpa using hin
                go_wp2_with (go_at_call 6; refine (contains_walk _ xs p _ hF.own.row (by omega)).mono ?_; rintro e wa ⟨rfl, rfl⟩)
                go_roundw
                case rel => exact ⟨k3 + 1, by omega, by go_num, by rw [HS.out, HI.out]; exact hF⟩
                case measure => simp [intOf]; omega
              · have HI : Hid (ins xs p = xs ++ [p]) := by unfold ins; exact if_neg hin
                have hdec : decide (p ∈ xs) = false := by simpa using hin
                have hown : wr.ownsRow B 23 1 u12 xs.length (xs.map (Value.int .u16)) := hF.own
                go_wp2_with fail
                refine (contains_walk _ xs p _ hF.own.row (by omega)).mono ?_
                rintro e wa ⟨rfl, hwa⟩
                subst hwa
                go_wp2_with (at_builtin; refine wpList_append_own _ rfl _ _ 22 rfl B 23 i0 (.int .u16 0) 1 2 Ybaz.underlying22 hi hz0 hz1 hz2 rfl (by decide) _ _ _ rfl (hown.alloc _) ⟨wa.heap.size, 0, none⟩ 1 1 [.int .u16 p] rfl rfl ?c1 ?c2 ?c3 ?c4 ?c5 ?_)
                case c1 =>
                  intro j u hj
                  match j, hj with
                  | 0, hj => simp at hj; subst hj; simp [Addr.add]
                case c2 => intro u hu; simp at hu; subst hu; rfl
                case c3 => unfold maxLen; omega
                case c4 => omega
                case c5 => have := hF.hi; simp; omega
                intro v' wb hown' hgrow _
                have hF2 := hF.keep hown' hgrow
                clear hown' hgrow hown hF
                go_wp2_with fail
                go_roundw
                case rel => exact ⟨k3 + 1, by omega, by go_num, by rw [HS.out, HI.out]; exact hF2⟩
                case measure => simp [intOf]; omega
            · rw [List.take_of_length_le (by omega), ← HA.out] at hF
              have hAl : A.length ≤ len0 := by rw [HA.out]; have := insAll_length (z0.take len0) []; simp only [List.length_nil, Nat.zero_add] at this; omega
              clear hxl
              go_wp2_with fail
              go_loopw [12, 73] (fun v i wr => ∃ k : Nat, k ≤ len1 ∧ i = .int .i64 k ∧ Full w wr (w.heap.size + 1) w.heap.size B ps v (insAll A ((z1.take len1).take k))) (fun _ i _ => len1 - (intOf i).toNat)
              case atStart => exact ⟨0, Nat.zero_le _, rfl, hF⟩
              case round =>
                clear hF
                obtain ⟨k4, hk4, rfl, hF⟩ := hrel
                have hxl : (insAll A ((z1.take len1).take k4)).length ≤ 1024 + k4 := by
                  have := insAll_length ((z1.take len1).take k4) A
                  rw [List.length_take] at this
                  omega
                by_cases hlt4 : k4 < len1
                · obtain ⟨b, off, rfl, hb, hc⟩ := w1.at k4 hlt4
                  have g : wr.cell? ⟨b, off + k4, none⟩ = some (.int .u16 ((z1.take len1)[k4])) := by
                    rw [hF.st.below.cell (by exact hb)]; exact hc k4 (by omega)
                  have HS : Hid (insAll A ((z1.take len1).take (k4 + 1)) = ins (insAll A ((z1.take len1).take k4)) (z1.take len1)[k4]) := insAll_snoc _ _ k4 (by omega)
                  generalize (z1.take len1)[k4] = p at g HS
                  generalize insAll A ((z1.take len1).take k4) = xs at hF hxl HS
                  by_cases hin : p ∈ xs
                  · have HI : Hid (ins xs p = xs) := by unfold ins; exact if_pos hin
                    have hdec : decide (p ∈ xs) = true := by simpa using hin
                    go_wp2_with (go_at_call 6; refine (contains_walk _ xs p _ hF.own.row (by omega)).mono ?_; rintro e wa ⟨rfl, rfl⟩)
                    go_roundw
                    case rel => exact ⟨k4 + 1, by omega, by go_num, by rw [HS.out, HI.out]; exact hF⟩
                    case measure => simp [intOf]; omega
                  · have HI : Hid (ins xs p = xs ++ [p]) := by unfold ins; exact if_neg hin
                    have hdec : decide (p ∈ xs) = false := by simpa using hin
                    have hown : wr.ownsRow B 23 1 u12 xs.length (xs.map (Value.int .u16)) := hF.own
                    go_wp2_with fail
                    refine (contains_walk _ xs p _ hF.own.row (by omega)).mono ?_
                    rintro e wa ⟨rfl, hwa⟩
                    subst hwa
                    go_wp2_with (at_builtin; refine wpList_append_own _ rfl _ _ 22 rfl B 23 i0 (.int .u16 0) 1 2 Ybaz.underlying22 hi hz0 hz1 hz2 rfl (by decide) _ _ _ rfl (hown.alloc _) ⟨wa.heap.size, 0, none⟩ 1 1 [.int .u16 p] rfl rfl ?c1 ?c2 ?c3 ?c4 ?c5 ?_)
                    case c1 =>
                      intro j u hj
                      match j, hj with
                      | 0, hj => simp at hj; subst hj; simp [Addr.add]
                    case c2 => intro u hu; simp at hu; subst hu; rfl
                    case c3 => unfold maxLen; omega
                    case c4 => omega
                    case c5 => have := hF.hi; simp; omega
                    intro v' wb hown' hgrow _
                    have hF2 := hF.keep hown' hgrow
                    clear hown' hgrow hown hF
                    go_wp2_with fail
                    go_roundw
                    case rel => exact ⟨k4 + 1, by omega, by go_num, by rw [HS.out, HI.out]; exact hF2⟩
                    case measure => simp [intOf]; omega
                · rw [List.take_of_length_le (by omega), ← HP.out] at hF
                  have hpl : ps.length ≤ 2048 := by rw [HP.out]; have := insAll_length (z1.take len1) A; omega
                  clear hxl
                  have mp := hF.st.mp
                  have hml := map_len wr _ _ hF.st.map
                  have hal := hF.own.len
                  go_wp2_with fail
                  clear hml mp
                  go_loopw [96] (fun i wr => ∃ k : Nat, k ≤ ps.length ∧ i = .int .i64 k ∧ Full w wr (w.heap.size + 1) w.heap.size B ps u12 ps) (fun i _ => ps.length - (intOf i).toNat)
                  case atStart => exact ⟨0, Nat.zero_le _, rfl, hF⟩
                  case round =>
                    clear hF
                    obtain ⟨k5, hk5, rfl, hF⟩ := hrel
                    by_cases hlt5 : k5 < ps.length
                    · obtain ⟨b, o, cap, hv, g⟩ := hF.own.form k5 hlt5
                      have hmem : ps[k5] ∈ ps := List.getElem_mem _
                      generalize ps[k5] = p at g hmem
                      have hdec : decide (p ∈ ps) = true := by simpa using hmem
                      clear hal
                      subst hv
                      have mp := hF.st.mp
                      go_wp2_with fail
                      go_region_with (go_at_call 4; refine (ap_walk _ _).mono ?_; rintro e wa ⟨rfl, hba⟩; have hFa := hF.drew.grow hba; have mpa := hFa.st.mp; have hlk := (map_lookup wa _ _ p hFa.st.map).1; rw [hdec] at hlk)
                      all_goals
                        clear hlk hba mpa
                        go_wp2_with fail
                        go_roundw
                        case rel => exact ⟨k5 + 1, by omega, by go_num, hFa⟩
                        case measure => simp [intOf]; omega
                    · have mp := hF.st.mp
                      go_wp2_with fail
                      go_region_with (first
                        | (go_at_call 4; refine (ap_walk _ _).mono ?_; rintro e wa ⟨rfl, hba⟩; have hFa := hF.drew.grow hba; have mpa := hFa.st.mp; have hlk := (map_lookup wa _ _ q hFa.st.map).2)
                        | (go_at_call 6; refine (contains_walk _ ps q _ (by exact hFa.own.row) (by omega)).mono ?_; rintro e wb ⟨rfl, hwb⟩; subst hwb))
                      all_goals
                        clear hlk hba mpa
                        go_wp2_with fail
                        refine (try_free ⟨w.heap.size + 1, 44, none⟩ _ hFa.st.mu hFa.st.soft).mono ?_
                        rintro e wc ⟨rfl, hwc⟩
                        have h2 : St w wc (w.heap.size + 1) w.heap.size ps 1 := by rw [hwc]; exact hFa.st.word 1
                        clear hwc
                        go_wp2_with fail
                        refine (unlock_held muLib ⟨w.heap.size + 1, 44, none⟩ _ h2.mu h2.soft).mono ?_
                        rintro e wd ⟨rfl, hwd⟩
                        have h3 : St w wd (w.heap.size + 1) w.heap.size ps 0 := by rw [hwd]; exact h2.word 0
                        clear hwd
                        have ks := h3.ks
                        have hneq : ∀ W : World, (binOp .neq 74 (.map none) (.map none)).run Ybaz.prog W = .ok (.bool false) W := fun W => by kernel_rfl
                        go_wp2_with fail
                        go_ret
                        exact ⟨rfl, h3.below⟩
end Go.Proofs.YbulkbuqwGreat
