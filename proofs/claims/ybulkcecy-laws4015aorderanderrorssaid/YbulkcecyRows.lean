/-
  No cell of these rows narrows 'for every input' (looked for: loops, veiled, ifaces, maps, wideKeys, modest, calm, conditions, laid).
  DERIVED. THE GIVEN ROWS OF THIS SEAT. 2 by the template 'for every input the law returns true; each argument reads behind the call as it read before'; 0 by the template 'total and deterministic' (their statements: YbulkcecyTotals.lean).
  GIVEN WITH THE SEED: the statements are not yours to turn. If you find one false, say at which input.
  Laid BY PROGRAM, IN A SANDBOX (cutbox-rows.mjs): the forced cells as the released guide's own fill.sh prints them over the translation b63cf208ea465ea6… (all of the seat's roots in one cut). By AI agents, Wed Nov 11 2026. No macro, syntax, notation, axiom, sorry.
-/
import Derived.Test.YbulkcecyChecked
import GoSem.Claim
import GoSem.ClaimJoined
import GoSem.ClaimMapViews
import Derived.JoinedTies
import Derived.KernelRfl
namespace Go.Proofs.Ybulkcecy
/- THE CELL 'sum', in the pinned program and in every row, IS THE sha256 OF THE DUMP (.gsa) THAT YbulkcecyProg.lean LOADS. Nothing in Lean hashes anything: it is a label: what it is worth is what the hold of that sum in a sandbox is worth. -/
noncomputable def Yba.pinned : Pinned := { name := "ybulkcecy", sum := "b63cf208ea465ea64fa86a3c0d53d9e1d0b54633ba03c598ed9e68cf884e1b02", checked := Yba.checked }
namespace Rows
def none {H : Type} : Left H := { results := [], args := [] }

/-- 'lang.LawS4015AOrderAndErrors': WHATEVER THE INPUT: true; the input reads as it did. -/
def lawS4015AOrderAndErrorsSpec : ChangeSpec := { name := "lawS4015AOrderAndErrors", fn := fun _ => fun
  | [d1, d2, d3] => { results := [.lit (.bool true)], args := [d1, d2, d3] }
  | _ => none }
def lawS4015AOrderAndErrorsRow : OpenClaim := { program := "ybulkcecy", sum := "b63cf208ea465ea64fa86a3c0d53d9e1d0b54633ba03c598ed9e68cf884e1b02", func := "example.com/operant/operant/internal/lang.LawS4015AOrderAndErrors", spec := "lawS4015AOrderAndErrors", unfollowed := true, recurses := true, apart := false }
def LawS4015AOrderAndErrorsSaid : Prop := lawS4015AOrderAndErrorsRow.holds Yba.pinned (OpenSpec.ofChange lawS4015AOrderAndErrorsSpec)

/-- ITS FALSE NEIGHBOUR: 'it returns false'. Refute it at one input. -/
def lawS4015AOrderAndErrorsWrong : ChangeSpec := { name := "lawS4015AOrderAndErrors", fn := fun _ => fun
  | [d1, d2, d3] => { results := [.lit (.bool false)], args := [d1, d2, d3] }
  | _ => none }
def LawS4015AOrderAndErrorsWrongFalsely : Prop := lawS4015AOrderAndErrorsRow.holds Yba.pinned (OpenSpec.ofChange lawS4015AOrderAndErrorsWrong)

/-- 'value.LawS4015BIndex': WHATEVER THE INPUT: true; the input reads as it did. -/
def lawS4015BIndexSpec : ChangeSpec := { name := "lawS4015BIndex", fn := fun _ => fun
  | [d] => { results := [.lit (.bool true)], args := [d] }
  | _ => none }
def lawS4015BIndexRow : OpenClaim := { program := "ybulkcecy", sum := "b63cf208ea465ea64fa86a3c0d53d9e1d0b54633ba03c598ed9e68cf884e1b02", func := "example.com/operant/operant/internal/value.LawS4015BIndex", spec := "lawS4015BIndex", apart := false }
def LawS4015BIndexSaid : Prop := lawS4015BIndexRow.holds Yba.pinned (OpenSpec.ofChange lawS4015BIndexSpec)

/-- ITS FALSE NEIGHBOUR: 'it returns false'. Refute it at one input. -/
def lawS4015BIndexWrong : ChangeSpec := { name := "lawS4015BIndex", fn := fun _ => fun
  | [d] => { results := [.lit (.bool false)], args := [d] }
  | _ => none }
def LawS4015BIndexWrongFalsely : Prop := lawS4015BIndexRow.holds Yba.pinned (OpenSpec.ofChange lawS4015BIndexWrong)

end Rows
end Go.Proofs.Ybulkcecy
