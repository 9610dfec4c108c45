/-
  The tree while it is built: the nodes laid so far.
-/
import Derived.Test.YbulkbuheE2
namespace Go.Proofs.Ybulkbuhe
open Go.RowKit Fl

/-- Node n holds c entries of the shape's; its sizes are numbers. -/
structure Part (h : Shape) (M : Nat → Nat → Value) (sm : Nat → Nat → Int) (n c : Nat) (lf : Bool) : Prop where
  count : M n 0 = .int .i32 c
  leaf : M n 1 = .bool lf
  owed : M n 2 = .int .u8 0
  keys : ∀ i, i < c → M n (3 + i) = .int .i32 ((h.s n (i + 1) : Int) - 1)
  sums : ∀ i, i < c → M n (11 + i) = .float .f64 (fl (sm n i))
  refs : ∀ i, i < c → M n (19 + i) = .int .i32 (h.ref n i)
  sizes : ∀ i, i < 8 → ∃ z, M n (28 + i) = .int .i32 z
/-- The nodes 1 .. cur - 1 are whole. -/
def MemTo (h : Shape) (M : Nat → Nat → Value) (sm : Nat → Nat → Int) (sn : Nat → Int) (cur : Nat) : Prop :=
  ∀ n, 1 ≤ n → n < cur → Part h M sm n (h.cnt n) (h.leaf n) ∧ M n 27 = .float .f64 (fl (sn n))

theorem MemTo.mem {h : Shape} {M : Nat → Nat → Value} {sm : Nat → Nat → Int} {sn : Nat → Int} (m : MemTo h M sm sn h.N) : Mem h M sm sn :=
  ⟨fun n a b => (m n a b).1.count, fun n a b => (m n a b).1.leaf, fun n a b => (m n a b).1.owed, fun n i a b => (m n a b).1.keys i, fun n i a b => (m n a b).1.sums i, fun n i a b => (m n a b).1.refs i, fun n a b => (m n a b).2, fun n i a b => (m n a b).1.sizes i⟩
theorem Part.congr {h : Shape} {M M' : Nat → Nat → Value} {sm sm' : Nat → Nat → Int} {n c : Nat} {lf : Bool} (p : Part h M sm n c lf) (e : ∀ o, M' n o = M n o) (es : ∀ i, i < c → sm' n i = sm n i) : Part h M' sm' n c lf :=
  ⟨by rw [e]; exact p.count, by rw [e]; exact p.leaf, by rw [e]; exact p.owed, fun i hi => by rw [e]; exact p.keys i hi, fun i hi => by rw [e, es i hi]; exact p.sums i hi, fun i hi => by rw [e]; exact p.refs i hi, fun i hi => by rw [e]; exact p.sizes i hi⟩
theorem MemTo.congr {h : Shape} {M M' : Nat → Nat → Value} {sm sm' : Nat → Nat → Int} {sn sn' : Nat → Int} {cur : Nat} (m : MemTo h M sm sn cur) (e : ∀ n o, n < cur → M' n o = M n o) (es : ∀ n i, n < cur → sm' n i = sm n i) (en : ∀ n, n < cur → sn' n = sn n) : MemTo h M' sm' sn' cur := fun n a b =>
  ⟨(m n a b).1.congr (fun o => e n o b) (fun i _ => es n i b), by rw [e n 27 b, en n b]; exact (m n a b).2⟩
/-- A new node. -/
theorem part_new (h : Shape) (M : Nat → Nat → Value) (sm : Nat → Nat → Int) (n : Nat) : Part h (grow M n) sm n 0 false := by
  have hg : ∀ o, grow M n n o = zc o := fun o => by unfold grow; rw [if_pos rfl]
  refine ⟨by rw [hg]; rfl, by rw [hg]; rfl, by rw [hg]; rfl, fun i hi => absurd hi (Nat.not_lt_zero _), fun i hi => absurd hi (Nat.not_lt_zero _), fun i hi => absurd hi (Nat.not_lt_zero _), fun i hi => ⟨0, ?_⟩⟩
  rw [hg]
  match i, hi with
  | 0, _ => rfl
  | 1, _ => rfl
  | 2, _ => rfl
  | 3, _ => rfl
  | 4, _ => rfl
  | 5, _ => rfl
  | 6, _ => rfl
  | 7, _ => rfl
/-- One entry more in a leaf: key, summary, item, count. -/
theorem Part.leafNext {h : Shape} {M : Nat → Nat → Value} {sm : Nat → Nat → Int} {n c : Nat} {lf : Bool} (p : Part h M sm n c lf) (hc : c < 8) (k r : Int) (hk : k = (h.s n (c + 1) : Int) - 1) (hr : r = h.ref n c) :
    Part h (upd (upd (upd (upd M n (3 + c) (.int .i32 k)) n (11 + c) (.float .f64 (fl (sm n c)))) n (19 + c) (.int .i32 r)) n 0 (.int .i32 ((c + 1 : Nat) : Int))) sm n (c + 1) lf := by
  have g : ∀ o, (upd (upd (upd (upd M n (3 + c) (.int .i32 k)) n (11 + c) (.float .f64 (fl (sm n c)))) n (19 + c) (.int .i32 r)) n 0 (.int .i32 ((c + 1 : Nat) : Int))) n o =
      if o = 0 then .int .i32 ((c + 1 : Nat) : Int) else if o = 19 + c then .int .i32 r else if o = 11 + c then .float .f64 (fl (sm n c)) else if o = 3 + c then .int .i32 k else M n o := fun o => by
    unfold upd
    simp only [true_and]
  refine ⟨by rw [g, if_pos rfl], ?_, ?_, fun i hi => ?_, fun i hi => ?_, fun i hi => ?_, fun i hi => ?_⟩
  · rw [g, if_neg (by omega), if_neg (by omega), if_neg (by omega), if_neg (by omega)]; exact p.leaf
  · rw [g, if_neg (by omega), if_neg (by omega), if_neg (by omega), if_neg (by omega)]; exact p.owed
  · rw [g, if_neg (by omega), if_neg (by omega), if_neg (by omega)]
    by_cases e : i = c
    · rw [if_pos (by omega), hk, e]
    · rw [if_neg (by omega)]; exact p.keys i (by omega)
  · rw [g, if_neg (by omega), if_neg (by omega)]
    by_cases e : i = c
    · rw [if_pos (by omega), e]
    · rw [if_neg (by omega), if_neg (by omega)]; exact p.sums i (by omega)
  · rw [g, if_neg (by omega)]
    by_cases e : i = c
    · rw [if_pos (by omega), hr, e]
    · rw [if_neg (by omega), if_neg (by omega), if_neg (by omega)]; exact p.refs i (by omega)
  · rw [g, if_neg (by omega), if_neg (by omega), if_neg (by omega), if_neg (by omega)]; exact p.sizes i hi
/-- One entry more in a branch: placed, then counted. -/
theorem Part.branchNext {h : Shape} {M : Nat → Nat → Value} {sm : Nat → Nat → Int} {n c : Nat} {lf : Bool} (p : Part h M sm n c lf) (hc : c < 8) (k r z : Int) (hk : k = (h.s n (c + 1) : Int) - 1) (hr : r = h.ref n c) :
    Part h (upd (placeM M n c k (fl (sm n c)) r z) n 0 (.int .i32 ((c + 1 : Nat) : Int))) sm n (c + 1) lf := by
  have g : ∀ o, (upd (placeM M n c k (fl (sm n c)) r z) n 0 (.int .i32 ((c + 1 : Nat) : Int))) n o =
      if o = 0 then .int .i32 ((c + 1 : Nat) : Int) else if o = 2 then .int .u8 0 else if o = 28 + c then .int .i32 z else if o = 19 + c then .int .i32 r else if o = 11 + c then .float .f64 (fl (sm n c)) else if o = 3 + c then .int .i32 k else M n o := fun o => by
    unfold placeM upd
    simp only [true_and]
  refine ⟨by rw [g, if_pos rfl], ?_, ?_, fun i hi => ?_, fun i hi => ?_, fun i hi => ?_, fun i hi => ?_⟩
  · rw [g, if_neg (by omega), if_neg (by omega), if_neg (by omega), if_neg (by omega), if_neg (by omega), if_neg (by omega)]; exact p.leaf
  · rw [g, if_neg (by omega), if_pos rfl]
  · rw [g, if_neg (by omega), if_neg (by omega), if_neg (by omega), if_neg (by omega), if_neg (by omega)]
    by_cases e : i = c
    · rw [if_pos (by omega), hk, e]
    · rw [if_neg (by omega)]; exact p.keys i (by omega)
  · rw [g, if_neg (by omega), if_neg (by omega), if_neg (by omega), if_neg (by omega)]
    by_cases e : i = c
    · rw [if_pos (by omega), e]
    · rw [if_neg (by omega), if_neg (by omega)]; exact p.sums i (by omega)
  · rw [g, if_neg (by omega), if_neg (by omega), if_neg (by omega)]
    by_cases e : i = c
    · rw [if_pos (by omega), hr, e]
    · rw [if_neg (by omega), if_neg (by omega), if_neg (by omega)]; exact p.refs i (by omega)
  · rw [g, if_neg (by omega), if_neg (by omega)]
    by_cases e : i = c
    · exact ⟨z, by rw [if_pos (by omega)]⟩
    · rw [if_neg (by omega), if_neg (by omega), if_neg (by omega), if_neg (by omega)]; exact p.sizes i hi
end Go.Proofs.Ybulkbuhe
