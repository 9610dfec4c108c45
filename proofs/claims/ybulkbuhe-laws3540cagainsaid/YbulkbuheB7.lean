/-
  The row of the nodes stepped into; the state of leastFirst's loop.
-/
import Derived.Test.YbulkbuheB6
namespace Go.Proofs.Ybulkbuhe
open Go.RowKit Fl

def ec (e : Stp) : Nat → Value
  | 0 => .int .i32 e.n
  | 1 => .int .i32 e.above
  | _ => .int .i32 e.i
def ea (ent : List Stp) (k : Nat) : Stp := ent.getD k ⟨0, 0, 0⟩
theorem ea_get {ent : List Stp} {k : Nat} (hk : k < ent.length) : ent[k]? = some (ea ent k) := by
  unfold ea
  rw [List.getD_eq_getElem?_getD, List.getElem?_eq_getElem hk]; rfl
def erow (ent : List Stp) : List Value := (List.range (ent.length * 3)).map fun k => ec (ea ent (k / 3)) (k % 3)
theorem erow_len (ent : List Stp) : (erow ent).length = ent.length * 3 := by simp [erow]
theorem erow_at (ent : List Stp) (j o : Nat) (hj : j < ent.length) (ho : o < 3) : (erow ent)[j * 3 + o]? = some (ec (ea ent j) o) := by
  unfold erow
  rw [List.getElem?_map, List.getElem?_range (by omega)]
  simp only [Option.map_some]
  rw [show (j * 3 + o) / 3 = j by omega, show (j * 3 + o) % 3 = o by omega]
theorem erow_append (ent : List Stp) (e : Stp) : erow ent ++ [ec e 0, ec e 1, ec e 2] = erow (ent ++ [e]) := by
  unfold erow
  rw [show (ent ++ [e]).length * 3 = ent.length * 3 + 3 by simp; omega, List.range_add, List.map_append, List.map_map]
  have h1 : ∀ j, j < ent.length → ea (ent ++ [e]) j = ea ent j := fun j hj => by unfold ea; simp only [List.getD_eq_getElem?_getD, List.getElem?_append_left hj]
  have h2 : ea (ent ++ [e]) ent.length = e := by unfold ea; simp [List.getD_eq_getElem?_getD]
  congr 1
  · apply List.map_congr_left
    intro k hk
    have := List.mem_range.1 hk
    rw [h1 _ (by omega)]
  · have h4 : List.range 3 = [0, 1, 2] := rfl
    rw [h4]
    simp only [List.map_cons, List.map_nil, Function.comp]
    rw [show (ent.length * 3 + 0) / 3 = ent.length by omega, show (ent.length * 3 + 1) / 3 = ent.length by omega, show (ent.length * 3 + 2) / 3 = ent.length by omega,
      show (ent.length * 3 + 0) % 3 = 0 by omega, show (ent.length * 3 + 1) % 3 = 1 by omega, show (ent.length * 3 + 2) % 3 = 2 by omega, h2]

theorem info69 : (Yba.prog.info? 69).map (fun i => (i.zero, i.size, i.bytes)) = some (some (.agg #[.int .i32 0, .int .i32 0, .int .i32 0]), 3, 12) := by kernel_rfl

theorem small_of {x : Int} (h0 : -100000 ≤ x) (h1 : x ≤ 100000) : Small x := by unfold Small; omega

/-- Ahead of each round. -/
structure Loop {base : Nat} (C : Client base) (h : Shape) (key : Int) (vals : Nat → Int) (tb cb nb cap : Nat) (sn : Nat → Int) (F0 : Nat → Prop) (w : World) (q : List Un) (ent : List Stp) (tr : List Vis) (sm : Nat → Nat → Int) (b : Nat) (F : Nat → Prop) (qv ev : Value) (wr : World) : Prop where
  sys : Sys C h wr tb cb nb cap sm sn qv q ⟨b, tr⟩ F
  inv : Inv h key C.bar vals C.ext q tr sm b
  ents : Ents h q tr ent
  er : wr.ownsRow base 69 3 ev ent.length (erow ent)
  esep : ∀ k, ev.ownBlock = some k → k ≠ tb ∧ k ≠ cb ∧ k ≠ nb ∧ ¬ F k ∧ qv.ownBlock ≠ some k ∧ w.heap.size ≤ k
  qnew : ∀ k, qv.ownBlock = some k → w.heap.size ≤ k
  fnew : ∀ k, F k → F0 k ∨ w.heap.size ≤ k
  chg : Chg (fun k => k = nb ∨ F0 k) w wr
  wgt : wts h q + ent.length ≤ 20000

section
variable {base : Nat} {C : Client base} {h : Shape} {key : Int} {vals : Nat → Int} {tb cb nb cap : Nat} {sn : Nat → Int} {F0 : Nat → Prop} {w : World} {q : List Un} {ent : List Stp} {tr : List Vis} {sm : Nat → Nat → Int} {b : Nat} {F : Nat → Prop} {qv ev : Value} {wr w' : World}

/-- New blocks, or none. -/
theorem Loop.idle (L : Loop C h key vals tb cb nb cap sn F0 w q ent tr sm b F qv ev wr) (hc : Chg (fun _ => False) wr w') : Loop C h key vals tb cb nb cap sn F0 w q ent tr sm b F qv ev w' :=
  ⟨L.sys.idle hc (fun _ e => e.elim), L.inv, L.ents, hc.row L.er (fun _ _ => id), L.esep, L.qnew, L.fnew, L.chg.trans hc (fun _ _ e => e.elim), L.wgt⟩

/-- Every entry's summary is small. -/
theorem Inv.range {ext : Nat → Int} {bar : Int} (I : Inv h key bar vals ext q tr sm b) (hv : ∀ j, 0 ≤ vals j ∧ vals j ≤ 255) (he : ∀ j, 0 ≤ ext j ∧ ext j ≤ 255) (n i : Nat) (h1 : 1 ≤ n) (h2 : n < h.N) (hi : i < h.cnt n) : Small (sm n i) := by
  cases hl : h.leaf n with
  | true =>
    rw [I.leaf n i h1 h2 hi hl]
    have := hv (h.s n i)
    have := he (h.s n i)
    split <;> exact small_of (by omega) (by omega)
  | false =>
    obtain ⟨j, _, _, e⟩ := (I.br n i h1 h2 hi hl).2
    rw [e]
    have := hv j
    exact small_of (by omega) (by omega)
theorem wts_len (o : h.Ok) : ∀ q : List Un, (∀ u ∈ q, 1 ≤ u.n ∧ u.n < h.N ∧ u.i < h.cnt u.n) → q.length ≤ wts h q := by
  intro q
  induction q with
  | nil => intro _; exact Nat.le_refl _
  | cons u q ih =>
    intro hq
    have h1 := ih (fun x hx => hq x (List.mem_cons_of_mem _ hx))
    obtain ⟨p1, p2, p3⟩ := hq u (List.mem_cons_self ..)
    have h2 := o.lt u.n u.i p1 p2 p3
    have h3 : 1 ≤ wt h u := by
      unfold wt
      split
      · exact Nat.le_refl _
      · exact Nat.mul_pos (by omega) (by omega)
    simp only [List.length_cons, wts]
    omega
end
end Go.Proofs.Ybulkbuhe
