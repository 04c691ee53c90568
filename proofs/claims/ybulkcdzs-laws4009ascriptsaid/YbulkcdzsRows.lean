/-
  No cell of these rows narrows 'for every input' (looked for: loops, veiled, ifaces, maps, wideKeys, modest, calm, conditions, laid).
  DERIVED. THE GIVEN ROWS OF THIS SEAT. 3 by the template 'for every input the law returns true; each argument reads behind the call as it read before'; 0 by the template 'total and deterministic' (their statements: YbulkcdzsTotals.lean).
  GIVEN WITH THE SEED: the statements are not yours to turn. If you find one false, say at which input.
  Laid BY PROGRAM, IN A SANDBOX (cutbox-rows.mjs): the forced cells as the released guide's own fill.sh prints them over the translation 8863162940115cca… (all of the seat's roots in one cut). By AI agents, Wed Nov 11 2026. No macro, syntax, notation, axiom, sorry.
-/
import Derived.Test.YbulkcdzsChecked
import GoSem.Claim
import GoSem.ClaimJoined
import GoSem.ClaimMapViews
import Derived.JoinedTies
import Derived.KernelRfl
namespace Go.Proofs.Ybulkcdzs
/- THE CELL 'sum', in the pinned program and in every row, IS THE sha256 OF THE DUMP (.gsa) THAT YbulkcdzsProg.lean LOADS. Nothing in Lean hashes anything: it is a label: what it is worth is what the hold of that sum in a sandbox is worth. -/
noncomputable def Yba.pinned : Pinned := { name := "ybulkcdzs", sum := "8863162940115cca4c9f605d8cd74ee1e4ef7c8f50eba8adf9bfc244fa1169d8", checked := Yba.checked }
namespace Rows
def none {H : Type} : Left H := { results := [], args := [] }

/-- 'ecliptica.LawS4009AScript': WHATEVER THE INPUT: true; the input reads as it did. -/
def lawS4009AScriptSpec : ChangeSpec := { name := "lawS4009AScript", fn := fun _ => fun
  | [d1, d2, d3, d4, d5] => { results := [.lit (.bool true)], args := [d1, d2, d3, d4, d5] }
  | _ => none }
def lawS4009AScriptRow : OpenClaim := { program := "ybulkcdzs", sum := "8863162940115cca4c9f605d8cd74ee1e4ef7c8f50eba8adf9bfc244fa1169d8", func := "example.com/ecliptica/ecliptica.LawS4009AScript", spec := "lawS4009AScript", inPlace := ["math.Float64bits", "math.Float64frombits"], unfollowed := true, recurses := true, apart := false }
def LawS4009AScriptSaid : Prop := lawS4009AScriptRow.holds Yba.pinned (OpenSpec.ofChange lawS4009AScriptSpec)

/-- ITS FALSE NEIGHBOUR: 'it returns false'. Refute it at one input. -/
def lawS4009AScriptWrong : ChangeSpec := { name := "lawS4009AScript", fn := fun _ => fun
  | [d1, d2, d3, d4, d5] => { results := [.lit (.bool false)], args := [d1, d2, d3, d4, d5] }
  | _ => none }
def LawS4009AScriptWrongFalsely : Prop := lawS4009AScriptRow.holds Yba.pinned (OpenSpec.ofChange lawS4009AScriptWrong)

/-- 'ecliptica.LawS4009AZeroRate': WHATEVER THE INPUT: true; the input reads as it did. -/
def lawS4009AZeroRateSpec : ChangeSpec := { name := "lawS4009AZeroRate", fn := fun _ => fun
  | [d1, d2, d3, d4] => { results := [.lit (.bool true)], args := [d1, d2, d3, d4] }
  | _ => none }
def lawS4009AZeroRateRow : OpenClaim := { program := "ybulkcdzs", sum := "8863162940115cca4c9f605d8cd74ee1e4ef7c8f50eba8adf9bfc244fa1169d8", func := "example.com/ecliptica/ecliptica.LawS4009AZeroRate", spec := "lawS4009AZeroRate", inPlace := ["math.Float64bits", "math.Float64frombits"], unfollowed := true, recurses := true, apart := false }
def LawS4009AZeroRateSaid : Prop := lawS4009AZeroRateRow.holds Yba.pinned (OpenSpec.ofChange lawS4009AZeroRateSpec)

/-- ITS FALSE NEIGHBOUR: 'it returns false'. Refute it at one input. -/
def lawS4009AZeroRateWrong : ChangeSpec := { name := "lawS4009AZeroRate", fn := fun _ => fun
  | [d1, d2, d3, d4] => { results := [.lit (.bool false)], args := [d1, d2, d3, d4] }
  | _ => none }
def LawS4009AZeroRateWrongFalsely : Prop := lawS4009AZeroRateRow.holds Yba.pinned (OpenSpec.ofChange lawS4009AZeroRateWrong)

/-- 'ecliptica.LawS4009CModel': WHATEVER THE INPUT: true; the input reads as it did. -/
def lawS4009CModelSpec : ChangeSpec := { name := "lawS4009CModel", fn := fun _ => fun
  | [d1, d2, d3, d4] => { results := [.lit (.bool true)], args := [d1, d2, d3, d4] }
  | _ => none }
def lawS4009CModelRow : OpenClaim := { program := "ybulkcdzs", sum := "8863162940115cca4c9f605d8cd74ee1e4ef7c8f50eba8adf9bfc244fa1169d8", func := "example.com/ecliptica/ecliptica.LawS4009CModel", spec := "lawS4009CModel", apart := false }
def LawS4009CModelSaid : Prop := lawS4009CModelRow.holds Yba.pinned (OpenSpec.ofChange lawS4009CModelSpec)

/-- ITS FALSE NEIGHBOUR: 'it returns false'. Refute it at one input. -/
def lawS4009CModelWrong : ChangeSpec := { name := "lawS4009CModel", fn := fun _ => fun
  | [d1, d2, d3, d4] => { results := [.lit (.bool false)], args := [d1, d2, d3, d4] }
  | _ => none }
def LawS4009CModelWrongFalsely : Prop := lawS4009CModelRow.holds Yba.pinned (OpenSpec.ofChange lawS4009CModelWrong)

end Rows
end Go.Proofs.Ybulkcdzs
