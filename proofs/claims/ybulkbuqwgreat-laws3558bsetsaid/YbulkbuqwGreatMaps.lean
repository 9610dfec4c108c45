/-
  A map keyed by addresses that differ in their port alone: what its operations do.
-/
import Derived.Test.YbulkbuqwGreatRows
import Derived.WalkKit
import Derived.Laws.StructEq
import Derived.MapKept
import Derived.ChangeMaps4
namespace Go.Proofs.YbulkbuqwGreat
open Go.RowKit Go.ChangeMaps

/-- The key of a port. -/
def K (p : Int) : Value := .agg #[.int .u64 0, .int .u64 0, .pointer none, .int .u16 p]

theorem check_key (b : Bool) (q : Int) (w : World) : (Instr.checkKey b 10000 37 (K q)).run Ybaz.prog w = .ok () w := by
  cases b <;> kernel_rfl

theorem equal_key (a b : Int) (w : World) : (Op.equal 37 (K a) (K b)).run Ybaz.prog w = .ok (a == b) w := by
  have s37 : Ybaz.prog.stoodInHeld 37 = false := by kernel_rfl
  have hf : (Ybaz.prog.fieldsOf 37).toList = [{ name := "ip", type := 35, offset := 0, embedded := false, tag := "", pkgPath := (Ybaz.prog.fieldsOf 37)[0]!.pkgPath, byteOffset := 0 }, { name := "port", type := 23, offset := 3, embedded := false, tag := "", pkgPath := (Ybaz.prog.fieldsOf 37)[0]!.pkgPath, byteOffset := 24 }] := by kernel_rfl
  have h1 : (Op.equalIn 9999 35 (.agg #[.int .u64 0, .int .u64 0, .pointer none]) (.agg #[.int .u64 0, .int .u64 0, .pointer none])).run Ybaz.prog w = .ok true w := by kernel_rfl
  have p1 : ∀ c : Int, (part 35 #[.int .u64 0, .int .u64 0, .pointer none, .int .u16 c] 0).run Ybaz.prog w = .ok (.agg #[.int .u64 0, .int .u64 0, .pointer none]) w := fun c => by kernel_rfl
  have p2 : ∀ c : Int, (part 23 #[.int .u64 0, .int .u64 0, .pointer none, .int .u16 c] 3).run Ybaz.prog w = .ok (.int .u16 c) w := fun c => by kernel_rfl
  have h2 : (Op.equalIn 9999 23 (.int .u16 a) (.int .u16 b)).run Ybaz.prog w = .ok (a == b) w := run_equalIn_int w 9998 23 .u16 .u16 a b Ybaz.underlying23
  unfold Op.equal Op.maxDepth K
  rw [run_equalIn_struct w 9999 37 _ _ (by kernel_rfl) s37, hf]
  simp only [Op.eqFields, ne_eq]
  rw [if_pos (by decide), if_pos (by decide)]
  simp only [Sem.run_bind, p1, Result.andThen_ok, h1, Bool.not_true, Bool.false_eq_true, if_false, p2, h2]
  cases hab : (a == b) <;> simp

/-- What stands in the map: the keys of the ports ps, each true. -/
def Ports (es : List MapEntry) (ps : List Int) : Prop := es.map (·.key) = ps.map K ∧ ∀ e ∈ es, e.val = .bool true

theorem Ports.nil : Ports [] [] := ⟨rfl, fun _ h => by cases h⟩
theorem Ports.length {es : List MapEntry} {ps : List Int} (h : Ports es ps) : es.length = ps.length := by
  have := congrArg List.length h.1
  simpa using this
theorem Ports.cons {e : MapEntry} {es : List MapEntry} {ps : List Int} (h : Ports (e :: es) ps) : ∃ p ps', ps = p :: ps' ∧ e.key = K p ∧ e.val = .bool true ∧ Ports es ps' := by
  obtain ⟨h1, h2⟩ := h
  cases ps with
  | nil => cases h1
  | cons p ps' =>
    simp only [List.map_cons, List.cons.injEq] at h1
    exact ⟨p, ps', rfl, h1.1, h2 e (List.mem_cons_self ..), h1.2, fun e' he => h2 e' (List.mem_cons_of_mem _ he)⟩
theorem Ports.push {es : List MapEntry} {ps : List Int} (h : Ports es ps) (q : Int) (c : Nat) : Ports (es ++ [{ key := K q, val := .bool true, born := c }]) (ps ++ [q]) := by
  obtain ⟨h1, h2⟩ := h
  refine ⟨by simp [h1], fun e he => ?_⟩
  rcases List.mem_append.1 he with he | he
  · exact h2 e he
  · rw [List.mem_singleton.1 he]

theorem find_none (q : Int) (es : List MapEntry) : ∀ (ps : List Int) (i : Nat) (w : World), Ports es ps → q ∉ ps → (Instr.findAsking 37 (K q) es i).run Ybaz.prog w = .ok none w := by
  induction es with
  | nil => intro ps i w _ _; rfl
  | cons e es ih =>
    intro ps i w h hq
    obtain ⟨p, ps', rfl, hk, _, ht⟩ := h.cons
    have hne : (q == p) = false := by rw [beq_eq_false_iff_ne]; intro e; exact hq (by rw [e]; exact List.mem_cons_self ..)
    simp only [Instr.findAsking, Sem.run_bind, hk, equal_key, Result.andThen_ok, hne, Bool.false_eq_true, if_false]
    exact ih ps' (i + 1) w ht (fun hm => hq (List.mem_cons_of_mem _ hm))

theorem find_some (q : Int) (es : List MapEntry) : ∀ (ps : List Int) (i : Nat) (w : World), Ports es ps → q ∈ ps → ∃ j e, es[j]? = some e ∧ e.key = K q ∧ e.val = .bool true ∧ (Instr.findAsking 37 (K q) es i).run Ybaz.prog w = .ok (some (i + j, .bool true)) w := by
  induction es with
  | nil => intro ps i w h hq; have := h.length; cases ps with | nil => cases hq | cons _ _ => cases this
  | cons e es ih =>
    intro ps i w h hq
    obtain ⟨p, ps', rfl, hk, hv, ht⟩ := h.cons
    cases hqp : (q == p) with
    | true =>
      have : q = p := by simpa using hqp
      subst this
      refine ⟨0, e, rfl, hk, hv, ?_⟩
      simp only [Instr.findAsking, Sem.run_bind, hk, equal_key, Result.andThen_ok, hqp, if_true, hv]
      rfl
    | false =>
      have hne : q ≠ p := by simpa using hqp
      obtain ⟨j, e', h1, h2, h3, h4⟩ := ih ps' (i + 1) w ht ((List.mem_cons.1 hq).resolve_left hne)
      refine ⟨j + 1, e', h1, h2, h3, ?_⟩
      simp only [Instr.findAsking, Sem.run_bind, hk, equal_key, Result.andThen_ok, hqp, Bool.false_eq_true, if_false]
      rw [h4, show i + 1 + j = i + (j + 1) by omega]

theorem findKey_none (q : Int) (es : List MapEntry) (ps : List Int) (w : World) (h : Ports es ps) (hq : q ∉ ps) : (Instr.findKey 37 (K q) es).run Ybaz.prog w = .ok none w := by
  unfold Instr.findKey
  rw [Sem.run_bind, run_underlying Ybaz.underlying37]
  simp only [Result.andThen_ok]
  cases es with
  | nil => rfl
  | cons e es => exact find_none q (e :: es) ps 0 w h hq
theorem findKey_some (q : Int) (es : List MapEntry) (ps : List Int) (w : World) (h : Ports es ps) (hq : q ∈ ps) : ∃ j e, es[j]? = some e ∧ e.key = K q ∧ e.val = .bool true ∧ (Instr.findKey 37 (K q) es).run Ybaz.prog w = .ok (some (j, .bool true)) w := by
  obtain ⟨j, e, h1, h2, h3, h4⟩ := find_some q es ps 0 w h hq
  refine ⟨j, e, h1, h2, h3, ?_⟩
  unfold Instr.findKey
  rw [Sem.run_bind, run_underlying Ybaz.underlying37]
  simp only [Result.andThen_ok]
  rw [Nat.zero_add] at h4
  cases es with
  | nil => cases h1
  | cons e es => exact h4

theorem same_key (q : Int) : Instr.sameBits 10000 (K q) (K q) = true := by
  show Instr.sameBits (9999 + 1) (.agg _) (.agg _) = true
  simp [Instr.sameBits]

/-- The map's block. -/
def MapIs (w : World) (r : Nat) (ps : List Int) : Prop := ∃ es c, w.heap[r]? = some (.map es c) ∧ Ports es.toList ps

/-- One port more. -/
def ins (ps : List Int) (q : Int) : List Int := if q ∈ ps then ps else ps ++ [q]

theorem map_update (w : World) (r : Nat) (ps : List Int) (q : Int) (h : MapIs w r ps) :
    ∃ o, (Instr.mapUpdate 25 (.map (some r)) (K q) (.bool true)).run Ybaz.prog w = .ok () (setBlock w r o) ∧ MapIs (setBlock w r o) r (ins ps q) := by
  obtain ⟨es, c, hb, hp⟩ := h
  have hlt : r < w.heap.size := by
    rcases Nat.lt_or_ge r w.heap.size with h | h
    · exact h
    · rw [Array.getElem?_eq_none h] at hb; cases hb
  have hset : ∀ o, (setBlock w r o).heap[r]? = some o := fun o => by
    show (w.heap.setIfInBounds r o)[r]? = some o
    simp [hlt]
  unfold ins
  by_cases hq : q ∈ ps
  · rw [if_pos hq]
    obtain ⟨j, e, h1, h2, h3, h4⟩ := findKey_some q es.toList ps w hp hq
    have h1' : es[j]? = some e := by rw [← Array.getElem?_toList]; exact h1
    have hmod : es.modify j (fun e => { e with key := K q, val := .bool true }) = es := by
      apply Array.ext_getElem?
      intro i
      rw [Array.getElem?_modify]
      by_cases hij : j = i
      · subst hij
        rw [if_pos rfl, h1']
        simp only [Option.map_some]
        rw [← h2, ← h3]
      · rw [if_neg hij]
    refine ⟨.map es c, ?_, es, c, hset _, hp⟩
    simp only [Instr.mapUpdate, Sem.run_bind, run_underlying Ybaz.underlying25, Result.andThen_ok, MapKept.run_getObj_map hb, check_key, h4, h1', Option.map_some, Option.getD_some, h2, Instr.keyThatStays, same_key, if_true, Sem.run_pure, hmod]
    exact MapKept.run_setObj_map _ hb
  · rw [if_neg hq]
    refine ⟨.map (es.push { key := K q, val := .bool true, born := c }) (c + 1), ?_, _, _, hset _, by rw [Array.toList_push]; exact hp.push q c⟩
    simp only [Instr.mapUpdate, Sem.run_bind, run_underlying Ybaz.underlying25, Result.andThen_ok, MapKept.run_getObj_map hb, check_key, findKey_none q es.toList ps w hp hq]
    exact MapKept.run_setObj_map _ hb

theorem map_lookup (w : World) (r : Nat) (ps : List Int) (q : Int) (h : MapIs w r ps) :
    (Instr.lookup 25 (.map (some r)) (K q) true).run Ybaz.prog w = .ok (.tuple #[.bool (decide (q ∈ ps)), .bool (decide (q ∈ ps))]) w ∧
    (Instr.lookup 25 (.map (some r)) (K q) false).run Ybaz.prog w = .ok (.bool (decide (q ∈ ps))) w := by
  obtain ⟨es, c, hb, hp⟩ := h
  have hz : (zeroValue 4).run Ybaz.prog w = .ok (.bool false) w := by kernel_rfl
  by_cases hq : q ∈ ps
  · obtain ⟨j, e, _, _, _, h4⟩ := findKey_some q es.toList ps w hp hq
    constructor <;> simp [Instr.lookup, run_underlying Ybaz.underlying25, MapKept.run_getObj_map hb, check_key, h4, hq]
  · have h4 := findKey_none q es.toList ps w hp hq
    constructor <;> simp [Instr.lookup, run_underlying Ybaz.underlying25, MapKept.run_getObj_map hb, check_key, h4, hq, hz]

theorem map_len (w : World) (r : Nat) (ps : List Int) (h : MapIs w r ps) : (Builtin.len_ #[25] 3 #[.map (some r)]).run Ybaz.prog w = .ok (.int .i64 ps.length) w := by
  obtain ⟨es, c, hb, hp⟩ := h
  have hl : es.size = ps.length := by have := hp.length; simpa using this
  simp [Builtin.len_, run_underlying Ybaz.underlying25, MapKept.run_getObj_map hb, goInt, hl]
end Go.Proofs.YbulkbuqwGreat
