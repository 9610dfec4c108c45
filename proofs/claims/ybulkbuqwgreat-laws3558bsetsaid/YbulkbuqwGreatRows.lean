/-
  No cell of these rows narrows 'for every input' (looked for: loops, veiled, ifaces, maps, wideKeys, modest, calm, conditions, laid).
  DERIVED. THE GIVEN ROWS OF THIS SEAT. 1 by the template 'for every input the law returns true; each argument reads behind the call as it read before'; 0 by the template 'total and deterministic' (their statements: YbulkbuqwGreatTotals.lean).
  GIVEN WITH THE SEED: the statements are not yours to turn. If you find one false, say at which input.
  Laid BY PROGRAM, IN A SANDBOX (cutbox-rows.mjs): the forced cells as the released guide's own fill.sh prints them over the translation fc6cd87236b8d9b6… (all of the seat's roots in one cut). By AI agents, Wed Nov 11 2026. No macro, syntax, notation, axiom, sorry.
-/
import Derived.Test.YbulkbuqwGreatChecked
import GoSem.Claim
import GoSem.ClaimJoined
import GoSem.ClaimMapViews
import Derived.JoinedTies
import Derived.KernelRfl
namespace Go.Proofs.YbulkbuqwGreat
/- THE CELL 'sum', in the pinned program and in every row, IS THE sha256 OF THE DUMP (.gsa) THAT YbulkbuqwGreatProg.lean LOADS. Nothing in Lean hashes anything: it is a label: what it is worth is what the hold of that sum in a sandbox is worth. -/
noncomputable def Ybaz.pinned : Pinned := { name := "ybulkbuqwgreat", sum := "fc6cd87236b8d9b67576beae4110ff62dffa446b8fc93b93a0caa1e38efc491a", checked := Ybaz.checked }
namespace Rows
def none {H : Type} : Left H := { results := [], args := [] }

/-- 'swarm.LawS3558BSet': WHATEVER THE INPUT: true; the input reads as it did. -/
def lawS3558BSetSpec : ChangeSpec := { name := "lawS3558BSet", fn := fun _ => fun
  | [d1, d2, d3] => { results := [.lit (.bool true)], args := [d1, d2, d3] }
  | _ => none }
def lawS3558BSetRow : OpenClaim := { program := "ybulkbuqwgreat", sum := "fc6cd87236b8d9b67576beae4110ff62dffa446b8fc93b93a0caa1e38efc491a", func := "example.com/patchwind/patchwind/swarm.LawS3558BSet", spec := "lawS3558BSet", inPlace := ["(*internal/sync.Mutex).Lock", "internal/race.Disable", "sync/atomic.CompareAndSwapInt32", "internal/race.Enable", "internal/race.Acquire", "(*internal/sync.Mutex).lockSlow", "internal/sync.runtime_canSpin", "internal/sync.runtime_doSpin", "internal/sync.throw", "internal/sync.runtime_nanotime", "internal/sync.runtime_SemacquireMutex", "sync/atomic.AddInt32", "(*internal/sync.Mutex).Unlock", "internal/race.ReleaseMerge", "(*internal/sync.Mutex).unlockSlow", "internal/sync.fatal", "internal/sync.runtime_Semrelease", "(*internal/sync.Mutex).TryLock"], plainKeys := false, apart := false }
def LawS3558BSetSaid : Prop := lawS3558BSetRow.holds Ybaz.pinned (OpenSpec.ofChange lawS3558BSetSpec)

/-- ITS FALSE NEIGHBOUR: 'it returns false'. Refute it at one input. -/
def lawS3558BSetWrong : ChangeSpec := { name := "lawS3558BSet", fn := fun _ => fun
  | [d1, d2, d3] => { results := [.lit (.bool false)], args := [d1, d2, d3] }
  | _ => none }
def LawS3558BSetWrongFalsely : Prop := lawS3558BSetRow.holds Ybaz.pinned (OpenSpec.ofChange lawS3558BSetWrong)

end Rows
end Go.Proofs.YbulkbuqwGreat
