/-
  No cell of these rows narrows 'for every input' (looked for: loops, veiled, ifaces, maps, wideKeys, modest, calm, conditions, laid).
  DERIVED. THE GIVEN ROWS OF THIS SEAT. 1 by the template 'for every input the law returns true; each argument reads behind the call as it read before'; 0 by the template 'total and deterministic' (their statements: YbulkceiiTotals.lean).
  GIVEN WITH THE SEED: the statements are not yours to turn. If you find one false, say at which input.
  Laid BY PROGRAM, IN A SANDBOX (cutbox-rows.mjs): the forced cells as the released guide's own fill.sh prints them over the translation 2f0f6933f4aa46f6… (all of the seat's roots in one cut). By AI agents, Wed Nov 11 2026. No macro, syntax, notation, axiom, sorry.
-/
import Derived.Test.YbulkceiiChecked
import GoSem.Claim
import GoSem.ClaimJoined
import GoSem.ClaimMapViews
import Derived.JoinedTies
import Derived.KernelRfl
namespace Go.Proofs.Ybulkceii
/- THE CELL 'sum', in the pinned program and in every row, IS THE sha256 OF THE DUMP (.gsa) THAT YbulkceiiProg.lean LOADS. Nothing in Lean hashes anything: it is a label: what it is worth is what the hold of that sum in a sandbox is worth. -/
noncomputable def Yba.pinned : Pinned := { name := "ybulkceii", sum := "2f0f6933f4aa46f636eac7fa81461ec1609a19293517a2493d8be495b9ede7c5", checked := Yba.checked }
namespace Rows
def none {H : Type} : Left H := { results := [], args := [] }

/-- 'live.LawS4025CCounts': WHATEVER THE INPUT: true; the input reads as it did. -/
def lawS4025CCountsSpec : ChangeSpec := { name := "lawS4025CCounts", fn := fun _ => fun
  | [d1, d2] => { results := [.lit (.bool true)], args := [d1, d2] }
  | _ => none }
def lawS4025CCountsRow : OpenClaim := { program := "ybulkceii", sum := "2f0f6933f4aa46f636eac7fa81461ec1609a19293517a2493d8be495b9ede7c5", func := "example.com/pulsetune/pulsetune/live.LawS4025CCounts", spec := "lawS4025CCounts", inPlace := ["sync/atomic.StoreUint64", "sync/atomic.StoreUint32", "sync/atomic.AddUint64", "sync/atomic.LoadUint64", "sync/atomic.LoadUint32"], apart := false }
def LawS4025CCountsSaid : Prop := lawS4025CCountsRow.holds Yba.pinned (OpenSpec.ofChange lawS4025CCountsSpec)

/-- ITS FALSE NEIGHBOUR: 'it returns false'. Refute it at one input. -/
def lawS4025CCountsWrong : ChangeSpec := { name := "lawS4025CCounts", fn := fun _ => fun
  | [d1, d2] => { results := [.lit (.bool false)], args := [d1, d2] }
  | _ => none }
def LawS4025CCountsWrongFalsely : Prop := lawS4025CCountsRow.holds Yba.pinned (OpenSpec.ofChange lawS4025CCountsWrong)

end Rows
end Go.Proofs.Ybulkceii
