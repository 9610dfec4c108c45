/-
  No cell of these rows narrows 'for every input' (looked for: loops, veiled, ifaces, maps, wideKeys, modest, calm, conditions, laid).
  DERIVED. THE GIVEN ROWS OF THIS SEAT. 2 by the template 'for every input the law returns true; each argument reads behind the call as it read before'; 0 by the template 'total and deterministic' (their statements: YbulkbuheTotals.lean).
  GIVEN WITH THE SEED: the statements are not yours to turn. If you find one false, say at which input.
  Laid BY PROGRAM, IN A SANDBOX (cutbox-rows.mjs): the forced cells as the released guide's own fill.sh prints them over the translation 41272ee4fbcc4ebe… (all of the seat's roots in one cut). By AI agents, Wed Nov 11 2026. No macro, syntax, notation, axiom, sorry.
-/
import Derived.Test.YbulkbuheChecked
import GoSem.Claim
import GoSem.ClaimJoined
import GoSem.ClaimMapViews
import Derived.JoinedTies
import Derived.KernelRfl
namespace Go.Proofs.Ybulkbuhe
/- THE CELL 'sum', in the pinned program and in every row, IS THE sha256 OF THE DUMP (.gsa) THAT YbulkbuheProg.lean LOADS. Nothing in Lean hashes anything: it is a label: what it is worth is what the hold of that sum in a sandbox is worth. -/
noncomputable def Yba.pinned : Pinned := { name := "ybulkbuhe", sum := "41272ee4fbcc4ebe790a1da76d268dcf74237d616686dd11db7ce58897ff72f6", checked := Yba.checked }
namespace Rows
def none {H : Type} : Left H := { results := [], args := [] }

/-- 'sched.LawS3540COrder': WHATEVER THE INPUT: true; the input reads as it did. -/
def lawS3540COrderSpec : ChangeSpec := { name := "lawS3540COrder", fn := fun _ => fun
  | [d1, d2, d3] => { results := [.lit (.bool true)], args := [d1, d2, d3] }
  | _ => none }
def lawS3540COrderRow : OpenClaim := { program := "ybulkbuhe", sum := "41272ee4fbcc4ebe790a1da76d268dcf74237d616686dd11db7ce58897ff72f6", func := "example.com/ledgerline/ledgerline/internal/sched.LawS3540COrder", spec := "lawS3540COrder", unfollowed := true, recurses := true, apart := false }
def LawS3540COrderSaid : Prop := lawS3540COrderRow.holds Yba.pinned (OpenSpec.ofChange lawS3540COrderSpec)

/-- ITS FALSE NEIGHBOUR: 'it returns false'. Refute it at one input. -/
def lawS3540COrderWrong : ChangeSpec := { name := "lawS3540COrder", fn := fun _ => fun
  | [d1, d2, d3] => { results := [.lit (.bool false)], args := [d1, d2, d3] }
  | _ => none }
def LawS3540COrderWrongFalsely : Prop := lawS3540COrderRow.holds Yba.pinned (OpenSpec.ofChange lawS3540COrderWrong)

/-- 'sched.LawS3540CAgain': WHATEVER THE INPUT: true; the input reads as it did. -/
def lawS3540CAgainSpec : ChangeSpec := { name := "lawS3540CAgain", fn := fun _ => fun
  | [d1, d2, d3, d4] => { results := [.lit (.bool true)], args := [d1, d2, d3, d4] }
  | _ => none }
def lawS3540CAgainRow : OpenClaim := { program := "ybulkbuhe", sum := "41272ee4fbcc4ebe790a1da76d268dcf74237d616686dd11db7ce58897ff72f6", func := "example.com/ledgerline/ledgerline/internal/sched.LawS3540CAgain", spec := "lawS3540CAgain", unfollowed := true, recurses := true, apart := false }
def LawS3540CAgainSaid : Prop := lawS3540CAgainRow.holds Yba.pinned (OpenSpec.ofChange lawS3540CAgainSpec)

/-- ITS FALSE NEIGHBOUR: 'it returns false'. Refute it at one input. -/
def lawS3540CAgainWrong : ChangeSpec := { name := "lawS3540CAgain", fn := fun _ => fun
  | [d1, d2, d3, d4] => { results := [.lit (.bool false)], args := [d1, d2, d3, d4] }
  | _ => none }
def LawS3540CAgainWrongFalsely : Prop := lawS3540CAgainRow.holds Yba.pinned (OpenSpec.ofChange lawS3540CAgainWrong)

end Rows
end Go.Proofs.Ybulkbuhe
