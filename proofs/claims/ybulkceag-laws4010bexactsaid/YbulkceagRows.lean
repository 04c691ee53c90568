/-
  No cell of these rows narrows 'for every input' (looked for: loops, veiled, ifaces, maps, wideKeys, modest, calm, conditions, laid).
  DERIVED. THE GIVEN ROWS OF THIS SEAT. 2 by the template 'for every input the law returns true; each argument reads behind the call as it read before'; 0 by the template 'total and deterministic' (their statements: YbulkceagTotals.lean).
  GIVEN WITH THE SEED: the statements are not yours to turn. If you find one false, say at which input.
  Laid BY PROGRAM, IN A SANDBOX (cutbox-rows.mjs): the forced cells as the released guide's own fill.sh prints them over the translation c42a518552c1d530… (all of the seat's roots in one cut). By AI agents, Wed Nov 11 2026. No macro, syntax, notation, axiom, sorry.
-/
import Derived.Test.YbulkceagChecked
import GoSem.Claim
import GoSem.ClaimJoined
import GoSem.ClaimMapViews
import Derived.JoinedTies
import Derived.KernelRfl
namespace Go.Proofs.Ybulkceag
/- THE CELL 'sum', in the pinned program and in every row, IS THE sha256 OF THE DUMP (.gsa) THAT YbulkceagProg.lean LOADS. Nothing in Lean hashes anything: it is a label: what it is worth is what the hold of that sum in a sandbox is worth. -/
noncomputable def Yba.pinned : Pinned := { name := "ybulkceag", sum := "c42a518552c1d530ee49e90214f7dacde01aafd408f088d844286e26b5c8a500", checked := Yba.checked }
namespace Rows
def none {H : Type} : Left H := { results := [], args := [] }

/-- 'desc.LawS4010BExact': WHATEVER THE INPUT: true; the input reads as it did. -/
def lawS4010BExactSpec : ChangeSpec := { name := "lawS4010BExact", fn := fun _ => fun
  | [d1, d2] => { results := [.lit (.bool true)], args := [d1, d2] }
  | _ => none }
def lawS4010BExactRow : OpenClaim := { program := "ybulkceag", sum := "c42a518552c1d530ee49e90214f7dacde01aafd408f088d844286e26b5c8a500", func := "example.com/wireloom/wireloom/internal/desc.LawS4010BExact", spec := "lawS4010BExact", apart := false }
def LawS4010BExactSaid : Prop := lawS4010BExactRow.holds Yba.pinned (OpenSpec.ofChange lawS4010BExactSpec)

/-- ITS FALSE NEIGHBOUR: 'it returns false'. Refute it at one input. -/
def lawS4010BExactWrong : ChangeSpec := { name := "lawS4010BExact", fn := fun _ => fun
  | [d1, d2] => { results := [.lit (.bool false)], args := [d1, d2] }
  | _ => none }
def LawS4010BExactWrongFalsely : Prop := lawS4010BExactRow.holds Yba.pinned (OpenSpec.ofChange lawS4010BExactWrong)

/-- 'desc.LawS4010BLines': WHATEVER THE INPUT: true; the input reads as it did. -/
def lawS4010BLinesSpec : ChangeSpec := { name := "lawS4010BLines", fn := fun _ => fun
  | [d] => { results := [.lit (.bool true)], args := [d] }
  | _ => none }
def lawS4010BLinesRow : OpenClaim := { program := "ybulkceag", sum := "c42a518552c1d530ee49e90214f7dacde01aafd408f088d844286e26b5c8a500", func := "example.com/wireloom/wireloom/internal/desc.LawS4010BLines", spec := "lawS4010BLines", apart := false }
def LawS4010BLinesSaid : Prop := lawS4010BLinesRow.holds Yba.pinned (OpenSpec.ofChange lawS4010BLinesSpec)

/-- ITS FALSE NEIGHBOUR: 'it returns false'. Refute it at one input. -/
def lawS4010BLinesWrong : ChangeSpec := { name := "lawS4010BLines", fn := fun _ => fun
  | [d] => { results := [.lit (.bool false)], args := [d] }
  | _ => none }
def LawS4010BLinesWrongFalsely : Prop := lawS4010BLinesRow.holds Yba.pinned (OpenSpec.ofChange lawS4010BLinesWrong)

end Rows
end Go.Proofs.Ybulkceag
