/-
  The summaries that the build lays.
-/
import Derived.Test.YbulkbuheE3
import Derived.Test.YbulkbuheB6
namespace Go.Proofs.Ybulkbuhe
open Go.RowKit Fl

/-- The least of vals over a .. b - 1. -/
def rmin (vals : Nat → Int) (a b : Nat) : Int := mn (fun i => vals (a + i)) (b - a - 1)
theorem rmin_min (vals : Nat → Int) {a b : Nat} (h : a < b) : IsMin vals a b (rmin vals a b) := by
  have hm := mn_min (fun i => vals (a + i)) (b - a - 1)
  rw [show b - a - 1 + 1 = b - a by omega] at hm
  refine ⟨fun j h1 h2 => ?_, ?_⟩
  · have e : vals (a + (j - a)) = vals j := by rw [show a + (j - a) = j by omega]
    have := hm.1 (j - a) (Nat.zero_le _) (by omega)
    dsimp only at this
    rw [e] at this
    exact this
  · obtain ⟨j, _, j2, hj⟩ := hm.2
    exact ⟨a + j, by omega, by omega, hj⟩
def smF (h : Shape) (vals : Nat → Int) (n i : Nat) : Int := rmin vals (h.s n i) (h.s n (i + 1))
def snF (h : Shape) (vals : Nat → Int) (n : Nat) : Int := rmin vals (h.s n 0) (h.s n (h.cnt n))
theorem smF_leaf {h : Shape} (o : h.Ok) (vals : Nat → Int) {n i : Nat} (h1 : 1 ≤ n) (h2 : n < h.N) (hi : i < h.cnt n) (hl : h.leaf n = true) : smF h vals n i = vals (h.s n i) := by
  unfold smF rmin
  rw [(o.leafs n i h1 h2 hi hl).2, show h.s n i + 1 - h.s n i - 1 = 0 by omega]
  rfl
theorem smF_min {h : Shape} (o : h.Ok) (vals : Nat → Int) {n i : Nat} (h1 : 1 ≤ n) (h2 : n < h.N) (hi : i < h.cnt n) : IsMin vals (h.s n i) (h.s n (i + 1)) (smF h vals n i) := rmin_min vals (o.lt n i h1 h2 hi)
theorem snF_eq {h : Shape} (o : h.Ok) (vals : Nat → Int) {n : Nat} (h1 : 1 ≤ n) (h2 : n < h.N) : mn (smF h vals n) (h.cnt n - 1) = snF h vals n := by
  have hc := o.cnt1 n h1 h2
  have hj := min_join o h1 h2 (f := vals) (x := smF h vals n) (fun i hi => smF_min o vals h1 h2 hi)
  have hlt : h.s n 0 < h.s n (h.cnt n) := by
    have := o.lt n 0 h1 h2 (by omega)
    have := o.le h1 h2 (show 0 + 1 ≤ h.cnt n by omega) (Nat.le_refl _)
    omega
  exact hj.eq (rmin_min vals hlt)
theorem snF_root {h : Shape} (o : h.Ok) (vals : Nat → Int) : IsMin vals 0 h.len (snF h vals h.root) := by
  have k1 := o.root1
  have kN : h.root < h.N := by have := o.rootN; omega
  have hc := o.cnt1 h.root k1 kN
  have hlt : h.s h.root 0 < h.s h.root (h.cnt h.root) := by
    have := o.lt h.root 0 k1 kN (by omega)
    have := o.le k1 kN (show 0 + 1 ≤ h.cnt h.root by omega) (Nat.le_refl _)
    omega
  have := rmin_min vals hlt
  rw [o.root0, o.rootlen] at this
  have e : snF h vals h.root = rmin vals 0 h.len := by unfold snF; rw [o.root0, o.rootlen]
  rw [e]; exact this
/-- The child's own summary is the entry's. -/
theorem snF_kid {h : Shape} (o : h.Ok) (vals : Nat → Int) {n i : Nat} (h1 : 1 ≤ n) (h2 : n < h.N) (hi : i < h.cnt n) (hl : h.leaf n = false) : snF h vals (h.ref n i) = smF h vals n i := by
  obtain ⟨_, _, k3, k4, _⟩ := o.kids n i h1 h2 hi hl
  unfold snF smF
  rw [k3, k4]
theorem rmin_range (vals : Nat → Int) (hv : ∀ j, 0 ≤ vals j ∧ vals j ≤ 255) {a b : Nat} (h : a < b) : 0 ≤ rmin vals a b ∧ rmin vals a b ≤ 255 := by
  obtain ⟨j, _, _, e⟩ := (rmin_min vals h).2
  rw [e]; exact hv j

/-- The tree while it is built: cur nodes are laid, the level's row holds the nodes lvl. -/
structure Bld (base tb : Nat) (h : Shape) (vals : Nat → Int) (w0 : World) (cur : Nat) (lvv : Value) (lvl : List Nat) (w : World) (cb nb cap : Nat) (M : Nat → Nat → Value) : Prop where
  tr : Tr w base tb cb nb cur cap M
  mem : MemTo h M (smF h vals) (snF h vals) cur
  row : w.ownsRow base 21 1 lvv lvl.length (lvl.map fun n : Nat => Value.int .i32 (n : Int))
  sep : ∀ k, lvv.ownBlock = some k → k ≠ tb ∧ k ≠ cb ∧ k ≠ nb ∧ w0.heap.size ≤ k
  cnew : w0.heap.size ≤ cb
  nnew : w0.heap.size ≤ nb
  chg : Chg (fun k => k = tb) w0 w
  rest : ∀ i, i ≠ 0 → i ≠ 2 → w.cell? ⟨tb, i, none⟩ = w0.cell? ⟨tb, i, none⟩
  low : base ≤ w.heap.size
end Go.Proofs.Ybulkbuhe
