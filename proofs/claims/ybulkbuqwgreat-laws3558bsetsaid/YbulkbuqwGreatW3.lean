/-
  What the law gathers: plain steps, and what each does to the memory.
-/
import Derived.Test.YbulkbuqwGreatW2
import Derived.OpenShut
namespace Go.Proofs.YbulkbuqwGreat
open Go.RowKit Go.MuLone Go.ChangeMaps

def insAll (ps xs : List Int) : List Int := xs.foldl ins ps
theorem insAll_snoc (ps xs : List Int) (k : Nat) (h : k < xs.length) : insAll ps (xs.take (k + 1)) = ins (insAll ps (xs.take k)) xs[k] := by
  unfold insAll
  rw [List.take_succ_eq_append_getElem h, List.foldl_append]; rfl
theorem ins_length (ps : List Int) (q : Int) : (ins ps q).length ≤ ps.length + 1 := by
  unfold ins; split <;> simp
theorem insAll_length (xs : List Int) : ∀ ps, (insAll ps xs).length ≤ ps.length + xs.length := by
  induction xs with
  | nil => intro ps; exact Nat.le_refl _
  | cons x xs ih =>
    intro ps
    have := ih (ins ps x)
    have := ins_length ps x
    show (insAll (ins ps x) xs).length ≤ _
    simp only [List.length_cons]
    omega

theorem lt_cell {w : World} {b o : Nat} {v : Value} (h : w.cell? ⟨b, o, none⟩ = some v) : b < w.heap.size := by
  rcases Nat.lt_or_ge b w.heap.size with h' | h'
  · exact h'
  · simp [World.cell?, Array.getElem?_eq_none h'] at h

/-- A slice that came in: nil, or cells. -/
def IsRow (k : IntKind) (w : World) (a : Option Addr) (len cap : Nat) (zs : List Int) : Prop :=
  (a = none ∧ len = 0 ∧ cap = 0 ∧ zs = []) ∨
  ∃ x, a = some x ∧ len ≤ cap ∧ cap ≤ maxLen ∧ zs.length = cap ∧ (∀ i, i < zs.length → w.cell? (x.add i) = some (.int k (zs.getD i 0))) ∧ ∀ n ∈ zs, (Lit.int k n).wf = true

theorem IsRow.len_le {k : IntKind} {w : World} {a : Option Addr} {len cap : Nat} {zs : List Int} (h : IsRow k w a len cap zs) : len ≤ zs.length := by
  rcases h with ⟨_, rfl, _, rfl⟩ | ⟨_, _, h1, _, h2, _⟩
  · exact Nat.le_refl _
  · omega
theorem IsRow.at {w : World} {a : Option Addr} {len cap : Nat} {zs : List Int} (h : IsRow .u16 w a len cap zs) (j : Nat) (hj : j < len) :
    ∃ b off, a = some ⟨b, off, none⟩ ∧ b < w.heap.size ∧ ∀ i, (hi : i < (zs.take len).length) → w.cell? ⟨b, off + i, none⟩ = some (.int .u16 (zs.take len)[i]) := by
  rcases h with ⟨_, rfl, _, rfl⟩ | ⟨x, rfl, h1, _, h2, hc, _⟩
  · omega
  · obtain ⟨b, off, rfl, hcell⟩ := ints_at hc (by omega)
    have c0 := hcell 0 (by omega)
    refine ⟨b, off, rfl, lt_cell c0, fun i hi => ?_⟩
    rw [List.length_take] at hi
    rw [hcell i (by omega)]
    have : i < zs.length := by omega
    simp [List.getD, this]

/-- What has been gathered lies in a row of the call's own. -/
def Own (w : World) (base : Nat) (v : Value) (xs : List Int) : Prop := w.ownsRow base 23 1 v xs.length (xs.map (Value.int .u16))
theorem Own.row {w : World} {base : Nat} {v : Value} {xs : List Int} (h : Own w base v xs) : Row w v xs := by
  obtain ⟨_, ⟨h1, h2⟩ | ⟨g, cap, cur, hv, _, hb, _, _, _, ht⟩⟩ := h
  · exact Or.inl ⟨h1, List.length_eq_zero_iff.1 h2⟩
  · refine Or.inr ⟨g, 0, cap, hv, fun i hi => ?_⟩
    rw [Nat.zero_add, Joins.cell_of_block hb]
    rw [Nat.mul_one] at ht
    have e : (cur.toList.take xs.length)[i]? = (xs.map (Value.int .u16))[i]? := by rw [ht]
    rw [List.getElem?_take, if_pos hi] at e
    rw [← Array.getElem?_toList, e]
    simp [List.getD, hi]

theorem St.grows {w0 w w' : World} {N r B : Nat} {ps : List Int} {m : Int} (h : St w0 w N r ps m) (hb : Below B w w') (hB : N < B) : St w0 w' N r ps m := by
  obtain ⟨es, c, hm, hp⟩ := h.map
  have hN := h.hN
  have hr := h.hr
  exact ⟨h.below.trans (hb.mono (by omega)), h.hr, h.hN, Nat.lt_of_lt_of_le h.lt hb.size, by rw [hb.cell (by exact hB)]; exact h.mu, by rw [hb.cell (by exact hB)]; exact h.mp, by rw [hb.cell (by exact hB)]; exact h.ks, by rw [hb.frozen (by exact hB)]; exact h.soft,
    es, c, by rw [hb.block r (by omega)]; exact hm, hp⟩

/-- The state behind the two loops that fill the map. -/
structure Full (w0 w : World) (N r base : Nat) (ps : List Int) (v : Value) (xs : List Int) : Prop where
  st : St w0 w N r ps 0
  lo : N < base
  hi : base ≤ w.heap.size
  own : Own w base v xs

theorem Full.keep {w0 w w1 : World} {N r base : Nat} {ps : List Int} {v v1 : Value} {xs : List Int} {x : Int} {o : Obj} (h : Full w0 w N r base ps v xs)
    (hown : w1.ownsRow base 23 1 v1 (xs.length + 1) (xs.map (Value.int .u16) ++ [.int .u16 x])) (hg : (w.alloc o).grownBy w1 v.ownBlock) : Full w0 w1 N r base ps v1 (xs ++ [x]) := by
  have hhi := h.hi
  have hlo := h.lo
  have hb1 : Below base w (w.alloc o) := (Below.refl base w).alloc hhi o
  have hb2 : Below base w w1 := hb1.grown hg (by simp; omega) (fun k hk => by
    obtain ⟨_, ⟨e, _⟩ | ⟨g, cap, cur, hv, hge, _⟩⟩ := h.own
    · rw [e] at hk; cases hk
    · rw [hv] at hk; cases hk; exact hge)
  refine ⟨h.st.grows hb2 hlo, hlo, Nat.le_trans hhi hb2.size, ?_⟩
  unfold Own
  rw [List.length_append, List.map_append]
  exact hown

theorem Full.grow {w0 w w' : World} {N r base : Nat} {ps : List Int} {v : Value} {xs : List Int} (h : Full w0 w N r base ps v xs) (hb : Below w.heap.size w w') : Full w0 w' N r base ps v xs := by
  refine ⟨h.st.grow hb, h.lo, Nat.le_trans h.hi hb.size, h.own.1, ?_⟩
  rcases h.own.2 with h0 | ⟨g, cap, cur, hv, hg, hc, rest⟩
  · exact Or.inl h0
  · refine Or.inr ⟨g, cap, cur, hv, hg, ?_, rest⟩
    rw [hb.block g]
    · exact hc
    · rcases Nat.lt_or_ge g w.heap.size with h' | h'
      · exact h'
      · rw [Array.getElem?_eq_none h'] at hc; cases hc
theorem Full.drew {w0 w : World} {N r base : Nat} {ps : List Int} {v : Value} {xs : List Int} (h : Full w0 w N r base ps v xs) : Full w0 w.drew N r base ps v xs := h.grow ((Below.refl _ _).drew)

/-- How long it is, and where its elements lie. -/
theorem Own.len {w : World} {base : Nat} {v : Value} {xs : List Int} (h : Own w base v xs) (W : World) : (Builtin.len_ #[22] 3 #[v]).run Ybaz.prog W = .ok (.int .i64 xs.length) W := by
  rcases h.row with ⟨rfl, rfl⟩ | ⟨b, o, cap, rfl, _⟩
  · simp [Builtin.len_, run_underlying Ybaz.underlying22, goInt]
  · simp [Builtin.len_, run_underlying Ybaz.underlying22, goInt]
theorem Own.form {w : World} {base : Nat} {v : Value} {xs : List Int} (h : Own w base v xs) (k : Nat) (hk : k < xs.length) :
    ∃ b o cap, v = .slice (some ⟨b, o, none⟩) xs.length cap ∧ w.cell? ⟨b, o + k, none⟩ = some (.int .u16 xs[k]) := by
  rcases h.row with ⟨rfl, rfl⟩ | ⟨b, o, cap, rfl, hc⟩
  · simp at hk
  · refine ⟨b, o, cap, rfl, ?_⟩
    rw [hc k hk]
    simp [List.getD, hk]
theorem info23 : (Ybaz.prog.info? 23).map (fun i => (i.zero, i.size, i.bytes)) = some (some (.int .u16 0), 1, 2) := by kernel_rfl
end Go.Proofs.YbulkbuqwGreat
