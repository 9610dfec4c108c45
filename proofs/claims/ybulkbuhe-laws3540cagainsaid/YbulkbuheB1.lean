/-
  The tree's shape; what the nodes hold; the client of leastFirst in plain words.
-/
import Derived.Test.YbulkbuheA9
namespace Go.Proofs.Ybulkbuhe
open Go.RowKit Fl

/-- The tree: node n's entry i covers the items s n i .. s n (i + 1) - 1. -/
structure Shape where
  N : Nat
  len : Nat
  root : Nat
  cnt : Nat → Nat
  leaf : Nat → Bool
  ref : Nat → Nat → Nat
  s : Nat → Nat → Nat
  ht : Nat → Nat

structure Shape.Ok (h : Shape) : Prop where
  small : h.N ≤ 1000
  lens : h.len ≤ 1024
  root1 : 1 ≤ h.root
  rootN : h.root + 1 = h.N
  cnt1 : ∀ n, 1 ≤ n → n < h.N → 1 ≤ h.cnt n
  cnt8 : ∀ n, 1 ≤ n → n < h.N → h.cnt n ≤ 8
  lt : ∀ n i, 1 ≤ n → n < h.N → i < h.cnt n → h.s n i < h.s n (i + 1)
  hi : ∀ n i, 1 ≤ n → n < h.N → i ≤ h.cnt n → h.s n i ≤ h.len
  leafs : ∀ n i, 1 ≤ n → n < h.N → i < h.cnt n → h.leaf n = true → h.ref n i = h.s n i ∧ h.s n (i + 1) = h.s n i + 1
  leafpos : ∀ n i, 1 ≤ n → n < h.N → i < h.cnt n → h.leaf n = true → n = 1 + h.s n i / 8 ∧ i = h.s n i % 8
  leafat : ∀ j, j < h.len → 1 + j / 8 < h.N ∧ h.leaf (1 + j / 8) = true ∧ j % 8 < h.cnt (1 + j / 8) ∧ h.s (1 + j / 8) (j % 8) = j
  kids : ∀ n i, 1 ≤ n → n < h.N → i < h.cnt n → h.leaf n = false → 1 ≤ h.ref n i ∧ h.ref n i < n ∧ h.s (h.ref n i) 0 = h.s n i ∧ h.s (h.ref n i) (h.cnt (h.ref n i)) = h.s n (i + 1) ∧ h.ht n = h.ht (h.ref n i) + 1
  inj : ∀ n i n' i', 1 ≤ n → n < h.N → i < h.cnt n → h.leaf n = false → 1 ≤ n' → n' < h.N → i' < h.cnt n' → h.leaf n' = false → h.ref n i = h.ref n' i' → n = n' ∧ i = i'
  root0 : h.s h.root 0 = 0
  rootlen : h.s h.root (h.cnt h.root) = h.len
  hts : ∀ n, h.ht n ≤ 8

theorem Shape.Ok.mono {h : Shape} (o : h.Ok) {n : Nat} (h1 : 1 ≤ n) (h2 : n < h.N) : ∀ d a, a + d ≤ h.cnt n → h.s n a + d ≤ h.s n (a + d) := by
  intro d
  induction d with
  | zero => intro a _; exact Nat.le_refl _
  | succ d ih =>
    intro a ha
    have := ih a (by omega)
    have := o.lt n (a + d) h1 h2 (by omega)
    show h.s n a + (d + 1) ≤ h.s n (a + d + 1)
    omega
theorem Shape.Ok.le {h : Shape} (o : h.Ok) {n a b : Nat} (h1 : 1 ≤ n) (h2 : n < h.N) (hab : a ≤ b) (hb : b ≤ h.cnt n) : h.s n a ≤ h.s n b := by
  have := o.mono h1 h2 (b - a) a (by omega)
  rw [show a + (b - a) = b by omega] at this
  omega
/-- Two entries of one node that share an item are one. -/
theorem Shape.Ok.same {h : Shape} (o : h.Ok) {n i i' j : Nat} (h1 : 1 ≤ n) (h2 : n < h.N) (hi : i < h.cnt n) (hi' : i' < h.cnt n) (a : h.s n i ≤ j) (b : j < h.s n (i + 1)) (a' : h.s n i' ≤ j) (b' : j < h.s n (i' + 1)) : i = i' := by
  rcases Nat.lt_trichotomy i i' with e | e | e
  · have := o.le h1 h2 (show i + 1 ≤ i' by omega) (by omega); omega
  · exact e
  · have := o.le h1 h2 (show i' + 1 ≤ i by omega) (by omega); omega
/-- The entry that covers an item of the node's. -/
theorem Shape.find (h : Shape) {n j : Nat} (a : h.s n 0 ≤ j) (b : j < h.s n (h.cnt n)) : ∃ i, i < h.cnt n ∧ h.s n i ≤ j ∧ j < h.s n (i + 1) := by
  have key : ∀ c, c ≤ h.cnt n → j < h.s n c → ∃ i, i < c ∧ h.s n i ≤ j ∧ j < h.s n (i + 1) := by
    intro c
    induction c with
    | zero => intro _ hj; omega
    | succ c ih =>
      intro hc hj
      by_cases hlt : j < h.s n c
      · obtain ⟨i, x, y⟩ := ih (by omega) hlt
        exact ⟨i, by omega, y⟩
      · exact ⟨c, by omega, by omega, hj⟩
  obtain ⟨i, x, y⟩ := key _ (Nat.le_refl _) b
  exact ⟨i, x, y⟩

/-- x is the least of f over a .. b - 1. -/
def IsMin (f : Nat → Int) (a b : Nat) (x : Int) : Prop := (∀ j, a ≤ j → j < b → x ≤ f j) ∧ ∃ j, a ≤ j ∧ j < b ∧ x = f j
theorem IsMin.eq {f : Nat → Int} {a b : Nat} {x y : Int} (h : IsMin f a b x) (k : IsMin f a b y) : x = y := by
  obtain ⟨i, i1, i2, rfl⟩ := h.2
  obtain ⟨j, j1, j2, rfl⟩ := k.2
  have := h.1 j j1 j2
  have := k.1 i i1 i2
  omega
theorem IsMin.congr {f g : Nat → Int} {a b : Nat} {x : Int} (h : IsMin f a b x) (e : ∀ j, a ≤ j → j < b → f j = g j) : IsMin g a b x := by
  obtain ⟨i, i1, i2, hi⟩ := h.2
  exact ⟨fun j j1 j2 => by rw [← e j j1 j2]; exact h.1 j j1 j2, i, i1, i2, by rw [← e i i1 i2]; exact hi⟩
theorem mn_min (xs : Nat → Int) (k : Nat) : IsMin xs 0 (k + 1) (mn xs k) := by
  induction k with
  | zero => exact ⟨fun j _ h => by rw [show j = 0 by omega]; exact Int.le_refl _, 0, Nat.le_refl _, by omega, rfl⟩
  | succ k ih =>
    refine ⟨fun j _ h => ?_, ?_⟩
    · show min (mn xs k) (xs (k + 1)) ≤ xs j
      by_cases e : j = k + 1
      · rw [e]; omega
      · have := ih.1 j (Nat.zero_le _) (by omega); omega
    · show ∃ j, 0 ≤ j ∧ j < k + 1 + 1 ∧ min (mn xs k) (xs (k + 1)) = xs j
      by_cases e : mn xs k ≤ xs (k + 1)
      · obtain ⟨j, j1, j2, hj⟩ := ih.2
        exact ⟨j, j1, by omega, by rw [← hj]; omega⟩
      · exact ⟨k + 1, Nat.zero_le _, by omega, by omega⟩

/-- What the nodes hold: sm n i: the summary of node n's entry i; sn n: node n's own. -/
structure Mem (h : Shape) (M : Nat → Nat → Value) (sm : Nat → Nat → Int) (sn : Nat → Int) : Prop where
  count : ∀ n, 1 ≤ n → n < h.N → M n 0 = .int .i32 (h.cnt n)
  leaf : ∀ n, 1 ≤ n → n < h.N → M n 1 = .bool (h.leaf n)
  owed : ∀ n, 1 ≤ n → n < h.N → M n 2 = .int .u8 0
  keys : ∀ n i, 1 ≤ n → n < h.N → i < h.cnt n → M n (3 + i) = .int .i32 ((h.s n (i + 1) : Int) - 1)
  sums : ∀ n i, 1 ≤ n → n < h.N → i < h.cnt n → M n (11 + i) = .float .f64 (fl (sm n i))
  refs : ∀ n i, 1 ≤ n → n < h.N → i < h.cnt n → M n (19 + i) = .int .i32 (h.ref n i)
  sum : ∀ n, 1 ≤ n → n < h.N → M n 27 = .float .f64 (fl (sn n))
  sizes : ∀ n i, 1 ≤ n → n < h.N → i < 8 → ∃ z, M n (28 + i) = .int .i32 z

def up2 (sm : Nat → Nat → Int) (n i : Nat) (x : Int) : Nat → Nat → Int := fun n' i' => if n' = n ∧ i' = i then x else sm n' i'
def up1 (sn : Nat → Int) (n : Nat) (x : Int) : Nat → Int := fun n' => if n' = n then x else sn n'
theorem up2_same (sm : Nat → Nat → Int) (n i : Nat) : up2 sm n i (sm n i) = sm := by
  funext n' i'
  unfold up2
  by_cases e : n' = n ∧ i' = i
  · rw [if_pos e, e.1, e.2]
  · rw [if_neg e]

theorem Mem.setSum {h : Shape} {M : Nat → Nat → Value} {sm : Nat → Nat → Int} {sn : Nat → Int} (m : Mem h M sm sn) (o : h.Ok) (n i : Nat) (h1 : 1 ≤ n) (h2 : n < h.N) (hi : i < h.cnt n) (x : Int) : Mem h (upd M n (11 + i) (.float .f64 (fl x))) (up2 sm n i x) sn := by
  have h8 := o.cnt8 n h1 h2
  have ne : ∀ n' k, (k ≠ 11 + i ∨ n' ≠ n) → upd M n (11 + i) (.float .f64 (fl x)) n' k = M n' k := fun n' k e => by
    unfold upd; rw [if_neg (by rintro ⟨a, b⟩; rcases e with e | e; exact e b; exact e a)]
  refine ⟨fun a x y => ?_, fun a x y => ?_, fun a x y => ?_, fun a b x y z => ?_, fun a b x y z => ?_, fun a b x y z => ?_, fun a x y => ?_, fun a b x y z => ?_⟩
  · rw [ne _ _ (.inl (by omega))]; exact m.count a x y
  · rw [ne _ _ (.inl (by omega))]; exact m.leaf a x y
  · rw [ne _ _ (.inl (by omega))]; exact m.owed a x y
  · have := o.cnt8 a x y
    rw [ne _ _ (.inl (by omega))]; exact m.keys a b x y z
  · unfold up2
    by_cases e : a = n ∧ b = i
    · rw [if_pos e]; unfold upd; rw [if_pos ⟨e.1, by omega⟩]
    · rw [if_neg e]
      rw [ne _ _ (by by_cases e1 : a = n; exact .inl (fun e2 => e ⟨e1, by omega⟩); exact .inr e1)]
      exact m.sums a b x y z
  · have := o.cnt8 a x y
    rw [ne _ _ (.inl (by omega))]; exact m.refs a b x y z
  · rw [ne _ _ (.inl (by omega))]; exact m.sum a x y
  · rw [ne _ _ (.inl (by omega))]; exact m.sizes a b x y z
theorem Mem.setNode {h : Shape} {M : Nat → Nat → Value} {sm : Nat → Nat → Int} {sn : Nat → Int} (m : Mem h M sm sn) (o : h.Ok) (n : Nat) (x : Int) : Mem h (upd M n 27 (.float .f64 (fl x))) sm (up1 sn n x) := by
  have ne : ∀ n' k, (k ≠ 27 ∨ n' ≠ n) → upd M n 27 (.float .f64 (fl x)) n' k = M n' k := fun n' k e => by
    unfold upd; rw [if_neg (by rintro ⟨a, b⟩; rcases e with e | e; exact e b; exact e a)]
  refine ⟨fun a x y => ?_, fun a x y => ?_, fun a x y => ?_, fun a b x y z => ?_, fun a b x y z => ?_, fun a b x y z => ?_, fun a x y => ?_, fun a b x y z => ?_⟩
  · rw [ne _ _ (.inl (by omega))]; exact m.count a x y
  · rw [ne _ _ (.inl (by omega))]; exact m.leaf a x y
  · rw [ne _ _ (.inl (by omega))]; exact m.owed a x y
  · have := o.cnt8 a x y
    rw [ne _ _ (.inl (by omega))]; exact m.keys a b x y z
  · have := o.cnt8 a x y
    rw [ne _ _ (.inl (by omega))]; exact m.sums a b x y z
  · have := o.cnt8 a x y
    rw [ne _ _ (.inl (by omega))]; exact m.refs a b x y z
  · unfold up1
    by_cases e : a = n
    · rw [if_pos e]; unfold upd; rw [if_pos ⟨e, rfl⟩]
    · rw [if_neg e, ne _ _ (.inr e)]; exact m.sum a x y
  · rw [ne _ _ (.inl (by omega))]; exact m.sizes a b x y z
theorem Mem.fair {h : Shape} {M : Nat → Nat → Value} {sm : Nat → Nat → Int} {sn : Nat → Int} (m : Mem h M sm sn) (o : h.Ok) (n : Nat) (h1 : 1 ≤ n) (h2 : n < h.N) : Fair M n (h.cnt n) :=
  ⟨m.count n h1 h2, o.cnt1 n h1 h2, o.cnt8 n h1 h2, ⟨_, m.leaf n h1 h2⟩, fun i hi => m.sizes n i h1 h2 hi, m.owed n h1 h2⟩
/-- setChild at an entry whose key and child are as they were. -/
theorem Mem.setChild {h : Shape} {M : Nat → Nat → Value} {sm : Nat → Nat → Int} {sn : Nat → Int} (m : Mem h M sm sn) (o : h.Ok) (n i : Nat) (h1 : 1 ≤ n) (h2 : n < h.N) (hi : i < h.cnt n) (x zz : Int) : Mem h (placeM M n i ((h.s n (i + 1) : Int) - 1) (fl x) (h.ref n i) zz) (up2 sm n i x) sn := by
  have h8 := o.cnt8 n h1 h2
  have ne : ∀ n' k, ((k ≠ 2 ∧ k ≠ 3 + i ∧ k ≠ 11 + i ∧ k ≠ 19 + i ∧ k ≠ 28 + i) ∨ n' ≠ n) → placeM M n i ((h.s n (i + 1) : Int) - 1) (fl x) (h.ref n i) zz n' k = M n' k := fun n' k e => by
    unfold placeM upd
    rw [if_neg (by omega), if_neg (by omega), if_neg (by omega), if_neg (by omega), if_neg (by omega)]
  refine ⟨fun a x y => ?_, fun a x y => ?_, fun a x y => ?_, fun a b x y z => ?_, fun a b x y z => ?_, fun a b x y z => ?_, fun a x y => ?_, fun a b x y z => ?_⟩
  · rw [ne _ _ (.inl (by omega))]; exact m.count a x y
  · rw [ne _ _ (.inl (by omega))]; exact m.leaf a x y
  · by_cases e : a = n
    · unfold placeM upd; rw [if_pos ⟨e, rfl⟩]
    · rw [ne _ _ (.inr e)]; exact m.owed a x y
  · have := o.cnt8 a x y
    by_cases e : a = n ∧ b = i
    · unfold placeM upd; rw [if_neg (by omega), if_neg (by omega), if_neg (by omega), if_neg (by omega), if_pos ⟨e.1, by omega⟩, e.1, e.2]
    · rw [ne _ _ (by omega)]; exact m.keys a b x y z
  · have := o.cnt8 a x y
    unfold up2
    by_cases e : a = n ∧ b = i
    · rw [if_pos e]; unfold placeM upd; rw [if_neg (by omega), if_neg (by omega), if_neg (by omega), if_pos ⟨e.1, by omega⟩]
    · rw [if_neg e, ne _ _ (by omega)]; exact m.sums a b x y z
  · have := o.cnt8 a x y
    by_cases e : a = n ∧ b = i
    · unfold placeM upd; rw [if_neg (by omega), if_neg (by omega), if_pos ⟨e.1, by omega⟩, e.1, e.2]
    · rw [ne _ _ (by omega)]; exact m.refs a b x y z
  · rw [ne _ _ (.inl (by omega))]; exact m.sum a x y
  · by_cases e : a = n ∧ b = i
    · refine ⟨zz, ?_⟩
      unfold placeM upd; rw [if_neg (by omega), if_pos ⟨e.1, by omega⟩]
    · rw [ne _ _ (by omega)]; exact m.sizes a b x y z

/-- A visit: the item, the summary it was handed at, whether again. -/
structure Vis where
  j : Nat
  v : Int
  again : Bool
structure Gh where
  bounds : Nat
  tr : List Vis

def RetPost (v : Value) (w : World) (e : Ending) (w' : World) : Prop := e = .returned v ∧ w' = w

/-- Whoever calls leastFirst: the four functions, what they hold. F: the blocks that are the client's own. -/
structure Client (base : Nat) where
  fv : Nat
  fb : Nat
  fn : Nat
  fs : Nat
  cb : Array Value
  cn : Array Value
  cs : Array Value
  bar : Int
  ext : Nat → Int
  good : List Vis → Prop
  E : Gh → (Nat → Prop) → World → Prop
  small : Small bar
  entv : ∀ args w, (callFunc fv args).run Yba.prog w = .ok (.enter fv args) w
  entb : ∀ args w, (callFunc fb args).run Yba.prog w = .ok (.enter fb args) w
  entn : ∀ args w, (callFunc fn args).run Yba.prog w = .ok (.enter fn args) w
  ents : ∀ args w, (callFunc fs args).run Yba.prog w = .ok (.enter fs args) w
  lt : ∀ g F w k, E g F w → F k → k < w.heap.size
  keep : ∀ g F S w w', E g F w → Chg S w w' → (∀ k, S k → base ≤ k ∧ ¬ F k) → E g F w'
  value : ∀ x w, Calls Yba.prog fv #[.float .f64 x] w (RetPost (.float .f64 x) w)
  barred : ∀ g F w, E g F w → Calls Yba.prog fb cb w (RetPost (.float .f64 (fl bar)) w)
  bound : ∀ b tr F w (j : Nat) (x : Int), E ⟨b, tr⟩ F w → Small x → b < 100000 → Calls Yba.prog fn (#[.int .i32 j, .float .f64 (fl x)] ++ cn) w fun e w' =>
    e = .returned (.float .f64 (fl x)) ∧ ∃ F', E ⟨b + 1, tr⟩ F' w' ∧ Chg F w w' ∧ ∀ k, F' k → F k ∨ w.heap.size ≤ k
  visit : ∀ b tr F w (x : Vis), E ⟨b, tr⟩ F w → good (tr ++ [x]) → Calls Yba.prog fs (#[.int .i32 x.j, .float .f64 (fl x.v), .bool x.again] ++ cs) w fun e w' =>
    (∃ y, e = .returned (.tuple #[.float .f64 (fl (if x.again = false ∧ 0 < ext x.j then x.v + ext x.j else x.v)), .float .f64 y, .bool (decide (x.again = false ∧ 0 < ext x.j))]) ∧ ((x.again = false ∧ 0 < ext x.j) → y = fl (x.v + ext x.j))) ∧
    ∃ F', E ⟨b, tr ++ [x]⟩ F' w' ∧ Chg F w w' ∧ ∀ k, F' k → F k ∨ w.heap.size ≤ k
end Go.Proofs.Ybulkbuhe
